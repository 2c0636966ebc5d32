import PyProof.Rows.All
import Wide.All
import OpenK.AllK
import Wide.FinOn
import PySem.Challenge.RW_sn0085_01
set_option Elab.async false
set_option maxRecDepth 100000
set_option linter.unusedVariables false
set_option linter.unusedSimpArgs false
local macro_rules | `(tactic| walk_at $s:str) => `(tactic| k_extra $s)
local macro_rules | `(tactic| k_mem) => `(tactic| k_extra "mine mem")
local macro_rules | `(tactic| k_all) => `(tactic| k_extra "mine all")
local macro_rules | `(tactic| walk_at "mine tail2") => `(tactic| (intro r9 tl9 h9 tk9 F9 N9 o9 p9; obtain ⟨e9, t9, e9'⟩ := p9; subst e9 e9'; simp only [List.nil_append] at N9))
local macro_rules | `(tactic| walk_at "mine tail3") => `(tactic| (intro r9 tl9 h9 tk9 F9 N9 o9 p9; obtain ⟨e9, e9'⟩ := p9; subst e9 e9'; simp only [List.nil_append] at N9))
local macro_rules | `(tactic| walk_at "mine tail4") => `(tactic| (intro v9 D9; cases D9))
local macro_rules | `(tactic| walk_at "mine tail0") => `(tactic| (intro l9 us9 n9 hl9 hi9; rw [Int.toNat_natCast] at hi9))
local macro_rules | `(tactic| walk_at "mine tail1") => `(tactic| (intro v9 hv9; obtain ⟨xa9, dx9, na9, ca9, vs9, k19, k29, k39, k49, k59, v19, v29, v39, v49, e9, m19, m29, m39, m49, hvs9⟩ := id hv9; subst e9))
section
open PySem PySem.W PyProof.Rows
set_option maxHeartbeats 0
namespace Mine
/-- the text's statement number i -/
noncomputable abbrev stm (i : Nat) : Stmt := PySem.Challenge.pw_sn0085_01.main.body.getD i (.Pass ⟨0, 0, 0, 0⟩)
noncomputable abbrev fnBody : Stmt → List Stmt
  | .FunctionDef (body := b) .. => b
  | _ => []
noncomputable abbrev clsBody : Stmt → List Stmt
  | .ClassDef (body := b) .. => b
  | _ => []
/-- a list's statement number i -/
noncomputable abbrev nthS (l : List Stmt) (i : Nat) : Stmt := l.getD i (.Pass ⟨0, 0, 0, 0⟩)
noncomputable abbrev fnScope : Stmt → Scope
  | .FunctionDef (scope := s) .. => s
  | _ => { kind := .function, names := [], isGenerator := false, isCoroutine := false, more := [] }
noncomputable abbrev fnArgs : Stmt → Arguments
  | .FunctionDef (args := a) .. => a
  | _ => { posonlyargs := [], args := [], vararg := none, kwonlyargs := [], kw_defaults := [], kwarg := none, defaults := [] }
noncomputable def dictParts : Stmt → List (Option Expr) × List Expr × Pos × Pos
  | .Assign _ (.Dict ks vs p) q => (ks, vs, p, q)
  | _ => ([], [], ⟨0, 0, 0, 0⟩, ⟨0, 0, 0, 0⟩)
noncomputable abbrev b3K : List (Option Expr) := (dictParts (stm 13)).1
noncomputable abbrev b3W : List Expr := (dictParts (stm 13)).2.1
noncomputable abbrev b3P : Pos := (dictParts (stm 13)).2.2.1
noncomputable abbrev b3Q : Pos := (dictParts (stm 13)).2.2.2
noncomputable def kInt : Option Expr → Int
  | some (.Constant (.int i) _ _) => i
  | _ => 0
noncomputable def vStr : Expr → Str
  | .Constant (.str x) _ _ => x
  | _ => ⟨#[]⟩
noncomputable abbrev Row := Int × Str
noncomputable def b3Rows : List Row := (b3K.map kInt).zip (b3W.map vStr)
noncomputable def b3Chunk (k : Nat) : List Row := (b3Rows.drop (17 * k)).take 17
noncomputable def b3Cs : List (List Row) := (List.range' 1 37).map b3Chunk
noncomputable def b3Tl : List Row := b3Rows.drop 646
/-- a dict that was filled with new keys alone -/
noncomputable def dO (es : List DictEntry) : Obj := { cls := .type "dict", data := .dict es.toArray es.length }
/-- the entries of a run of pairs, each set as soon as it is read -/
noncomputable def ent17 (T : Nat) : List Row → List DictEntry
  | [] => []
  | r :: rs => ⟨hashInt r.1, .int r.1 T, .str r.2 (T + 1)⟩ :: ent17 (T + 3) rs
/-- the entries of a run of pairs, all read first -/
noncomputable def ent4 (T : Nat) : List Row → List DictEntry
  | [] => []
  | r :: rs => ⟨hashInt r.1, .int r.1 T, .str r.2 (T + 1)⟩ :: ent4 (T + 2) rs
noncomputable def ents (T : Nat) : List (List Row) → List DictEntry
  | [] => []
  | c :: cs => ent17 T c ++ ents (T + 51) cs
noncomputable def subsOf (T : Nat) : List (List Row) → List Obj
  | [] => []
  | c :: cs => dO (ent17 T c) :: subsOf (T + 51) cs
noncomputable def b3All : List DictEntry := ent17 442 (b3Chunk 0) ++ ents 493 b3Cs ++ ent4 2380 b3Tl
/-- the top's surroundings -/
noncomputable def envT : Env := { scope := PySem.Challenge.pw_sn0085_01.main.scope, locals := mainNs, globals := mainNs, cells := [], code := .ref 13, frame := some 14 }
end Mine
end
section
open PySem PySem.W PyProof.Rows
set_option maxHeartbeats 0
namespace Mine
noncomputable def ob100_11 (P : Params) : Obj := Obj.mk (Value.type "tuple") none (Data.seq #[]) #[]
noncomputable def ob100_12 (P : Params) : Obj := Obj.mk Value.none none (Data.fields #[]) #[]
noncomputable def ob100_13 (P : Params) : Obj := Obj.mk (Value.type "code") none (Data.fields #[Value.str (Str.ofString "<module>") 182, Value.str (Str.ofString "<module>") 183, Value.str (Str.ofString "/claim/cut.py") 184, Value.int 1 0, Value.int 0 0, Value.int 0 0, Value.int 0 0, Value.int 0 0, Value.ref 11, Value.bool Bool.false, Value.int 181 0, Value.ref 12, Value.none, Value.none, Value.none, Value.none, Value.int 185 0, Value.int 1 0, Value.str (Str.ofString "/claim/cut.py") 186]) #[]
noncomputable def ob100_14 (P : Params) : Obj := Obj.mk (Value.type "frame") none Data.plain #[Option.some (Value.ref 13), Option.some (Value.ref 3), Option.some (Value.ref 3), none, Option.some (Value.str (Str.ofString "__main__") 164), none, Option.some (Value.ref 0)]
noncomputable def tree100 (P : Params) : BT := (.node (boot_o_0 P) (.node (boot_o_1 P) (.node (boot_o_3 P) (.node (boot_o_7 P) .nil .nil) (.node (ob100_11 P) .nil .nil)) (.node (boot_o_5 P) (.node (boot_o_9 P) .nil .nil) (.node (ob100_13 P) .nil .nil))) (.node (boot_o_2 P) (.node (boot_o_4 P) (.node (boot_o_8 P) .nil .nil) (.node (ob100_12 P) .nil .nil)) (.node (boot_o_6 P) (.node (boot_o_10 P) .nil .nil) (.node (ob100_14 P) .nil .nil))))
noncomputable def st100 (w : World) (os : OsState) : SharedT := ⟨tree100 w.params, 15, {}, ⟨[]⟩, {}, 187, os⟩
noncomputable def ob1_3 (P : Params) : Obj := Obj.mk (Value.type "dict") none (Data.dict #[DictEntry.mk (PyData.keyHash P (Str.ofString "__name__")) (Value.str (Str.ofString "__name__") 165) (Value.str (Str.ofString "cpy313.tabnanny") 194), DictEntry.mk (PyData.keyHash P (Str.ofString "__doc__")) (Value.str (Str.ofString "__doc__") 166) Value.none, DictEntry.mk (PyData.keyHash P (Str.ofString "__package__")) (Value.str (Str.ofString "__package__") 167) Value.none, DictEntry.mk (PyData.keyHash P (Str.ofString "__loader__")) (Value.str (Str.ofString "__loader__") 168) (Value.builtin "__main__.__loader__#opaque"), DictEntry.mk (PyData.keyHash P (Str.ofString "__spec__")) (Value.str (Str.ofString "__spec__") 169) Value.none, DictEntry.mk (PyData.keyHash P (Str.ofString "__annotations__")) (Value.str (Str.ofString "__annotations__") 170) (Value.ref 6), DictEntry.mk (PyData.keyHash P (Str.ofString "__builtins__")) (Value.str (Str.ofString "__builtins__") 171) (Value.ref 4), DictEntry.mk (PyData.keyHash P (Str.ofString "__file__")) (Value.str (Str.ofString "__file__") 173) (Value.str (Str.ofString "/claim/cut.py") 172), DictEntry.mk (PyData.keyHash P (Str.ofString "__cached__")) (Value.str (Str.ofString "__cached__") 174) Value.none, DictEntry.mk (PyData.keyHash P (Str.ofString "_wall")) (Value.str (Str.ofString "_wall") 193) (Value.ref 21)] 10) #[]
noncomputable def ob1_12 (P : Params) : Obj := Obj.mk Value.none none (Data.fields #[Value.int 1 0, Value.int 0 0, Value.ref 20]) #[]
noncomputable def ob1_15 (P : Params) : Obj := Obj.mk (Value.type "tuple") none (Data.seq #[]) #[]
noncomputable def ob1_16 (P : Params) : Obj := Obj.mk Value.none none (Data.fields #[]) #[]
noncomputable def ob1_17 (P : Params) : Obj := Obj.mk (Value.type "tuple") none (Data.seq #[Value.str (Str.ofString "k") 190]) #[]
noncomputable def ob1_18 (P : Params) : Obj := Obj.mk (Value.type "tuple") none (Data.seq #[]) #[]
noncomputable def ob1_19 (P : Params) : Obj := Obj.mk Value.none none (Data.func (FuncData.mk (Str.ofString "_wall") (Str.ofString "_wall") (fnArgs (stm 0)) (FuncBody.stmts (fnBody (stm 0))) (fnScope (stm 0)) 0 [] Value.none Value.none Value.none Value.none none Value.none Value.none 0)) #[]
noncomputable def ob1_20 (P : Params) : Obj := Obj.mk (Value.type "code") none (Data.fields #[Value.str (Str.ofString "_wall") 187, Value.str (Str.ofString "_wall") 188, Value.str (Str.ofString "/claim/cut.py") 189, Value.int 1 0, Value.int 1 0, Value.int 0 0, Value.int 0 0, Value.int 3 0, Value.ref 15, Value.bool Bool.true, Value.int 181 0, Value.ref 16, Value.none, Value.ref 17, Value.ref 18, Value.ref 19, Value.int 191 0, Value.int 1 0, Value.str (Str.ofString "/claim/cut.py") 192]) #[]
noncomputable def ob1_21 (P : Params) : Obj := Obj.mk (Value.type "function") none (Data.func (FuncData.mk (Str.ofString "_wall") (Str.ofString "_wall") (fnArgs (stm 0)) (FuncBody.stmts (fnBody (stm 0))) (fnScope (stm 0)) 3 [] Value.none Value.none Value.none (Value.str (Str.ofString "__main__") 164) none (Value.ref 20) Value.none 0)) #[]
noncomputable def tree1 (P : Params) : BT := (.node (boot_o_0 P) (.node (boot_o_1 P) (.node (ob1_3 P) (.node (boot_o_7 P) (.node (ob1_15 P) .nil .nil) .nil) (.node (ob100_11 P) (.node (ob1_19 P) .nil .nil) .nil)) (.node (boot_o_5 P) (.node (boot_o_9 P) (.node (ob1_17 P) .nil .nil) .nil) (.node (ob100_13 P) (.node (ob1_21 P) .nil .nil) .nil))) (.node (boot_o_2 P) (.node (boot_o_4 P) (.node (boot_o_8 P) (.node (ob1_16 P) .nil .nil) .nil) (.node (ob1_12 P) (.node (ob1_20 P) .nil .nil) .nil)) (.node (boot_o_6 P) (.node (boot_o_10 P) (.node (ob1_18 P) .nil .nil) .nil) (.node (ob100_14 P) .nil .nil))))
noncomputable def st1 (w : World) (os : OsState) : SharedT := ⟨tree1 w.params, 22, {}, ⟨[]⟩, {}, 196, os⟩
noncomputable def ob2_3 (P : Params) : Obj := Obj.mk (Value.type "dict") none (Data.dict #[DictEntry.mk (PyData.keyHash P (Str.ofString "__name__")) (Value.str (Str.ofString "__name__") 165) (Value.str (Str.ofString "cpy313.tabnanny") 194), DictEntry.mk (PyData.keyHash P (Str.ofString "__doc__")) (Value.str (Str.ofString "__doc__") 166) Value.none, DictEntry.mk (PyData.keyHash P (Str.ofString "__package__")) (Value.str (Str.ofString "__package__") 167) Value.none, DictEntry.mk (PyData.keyHash P (Str.ofString "__loader__")) (Value.str (Str.ofString "__loader__") 168) (Value.builtin "__main__.__loader__#opaque"), DictEntry.mk (PyData.keyHash P (Str.ofString "__spec__")) (Value.str (Str.ofString "__spec__") 169) Value.none, DictEntry.mk (PyData.keyHash P (Str.ofString "__annotations__")) (Value.str (Str.ofString "__annotations__") 170) (Value.ref 6), DictEntry.mk (PyData.keyHash P (Str.ofString "__builtins__")) (Value.str (Str.ofString "__builtins__") 171) (Value.ref 4), DictEntry.mk (PyData.keyHash P (Str.ofString "__file__")) (Value.str (Str.ofString "__file__") 173) (Value.str (Str.ofString "/claim/cut.py") 172), DictEntry.mk (PyData.keyHash P (Str.ofString "__cached__")) (Value.str (Str.ofString "__cached__") 174) Value.none, DictEntry.mk (PyData.keyHash P (Str.ofString "_wall")) (Value.str (Str.ofString "_wall") 193) (Value.ref 21), DictEntry.mk (PyData.keyHash P (Str.ofString "Whitespace")) (Value.str (Str.ofString "Whitespace") 295) (Value.ref 83)] 11) #[]
noncomputable def ob2_12 (P : Params) : Obj := Obj.mk Value.none none (Data.fields #[Value.int 1 0, Value.int 0 0, Value.ref 20, Value.int 5 0, Value.int 0 0, Value.ref 27]) #[]
noncomputable def ob2_22 (P : Params) : Obj := Obj.mk (Value.type "tuple") none (Data.seq #[]) #[]
noncomputable def ob2_23 (P : Params) : Obj := Obj.mk (Value.type "builtin_function_or_method") none (Data.fields #[Value.builtin "type.__prepare__", Value.type "type"]) #[]
noncomputable def ob2_24 (P : Params) : Obj := Obj.mk (Value.type "dict") none (Data.dict #[DictEntry.mk (PyData.keyHash P (Str.ofString "__module__")) (Value.str (Str.ofString "__module__") 203) (Value.str (Str.ofString "cpy313.tabnanny") 194), DictEntry.mk (PyData.keyHash P (Str.ofString "__qualname__")) (Value.str (Str.ofString "__qualname__") 205) (Value.str (Str.ofString "Whitespace") 204), DictEntry.mk (PyData.keyHash P (Str.ofString "__firstlineno__")) (Value.str (Str.ofString "__firstlineno__") 207) (Value.int 5 206), DictEntry.mk (PyData.keyHash P (Str.ofString "S")) (Value.str (Str.ofString "S") 211) (Value.str (Str.ofString " ") 209), DictEntry.mk (PyData.keyHash P (Str.ofString "T")) (Value.str (Str.ofString "T") 212) (Value.str (Str.ofString "\t") 210), DictEntry.mk (PyData.keyHash P (Str.ofString "__init__")) (Value.str (Str.ofString "__init__") 227) (Value.ref 38), DictEntry.mk (PyData.keyHash P (Str.ofString "longest_run_of_spaces")) (Value.str (Str.ofString "longest_run_of_spaces") 236) (Value.ref 45), DictEntry.mk (PyData.keyHash P (Str.ofString "indent_level")) (Value.str (Str.ofString "indent_level") 248) (Value.ref 52), DictEntry.mk (PyData.keyHash P (Str.ofString "equal")) (Value.str (Str.ofString "equal") 256) (Value.ref 59), DictEntry.mk (PyData.keyHash P (Str.ofString "not_equal_witness")) (Value.str (Str.ofString "not_equal_witness") 264) (Value.ref 66), DictEntry.mk (PyData.keyHash P (Str.ofString "less")) (Value.str (Str.ofString "less") 274) (Value.ref 73), DictEntry.mk (PyData.keyHash P (Str.ofString "not_less_witness")) (Value.str (Str.ofString "not_less_witness") 282) (Value.ref 80), DictEntry.mk (PyData.keyHash P (Str.ofString "__static_attributes__")) (Value.str (Str.ofString "__static_attributes__") 288) (Value.ref 81)] 13) #[]
noncomputable def ob2_25 (P : Params) : Obj := Obj.mk (Value.type "tuple") none (Data.seq #[]) #[]
noncomputable def ob2_26 (P : Params) : Obj := Obj.mk Value.none none (Data.fields #[Value.int 8 0, Value.int 4 0, Value.ref 37, Value.int 31 0, Value.int 4 0, Value.ref 44, Value.int 35 0, Value.int 4 0, Value.ref 51, Value.int 42 0, Value.int 4 0, Value.ref 58, Value.int 45 0, Value.int 4 0, Value.ref 65, Value.int 48 0, Value.int 4 0, Value.ref 72, Value.int 59 0, Value.int 4 0, Value.ref 79]) #[]
noncomputable def ob2_27 (P : Params) : Obj := Obj.mk (Value.type "code") none (Data.fields #[Value.str (Str.ofString "Whitespace") 198, Value.str (Str.ofString "Whitespace") 199, Value.str (Str.ofString "/claim/cut.py") 200, Value.int 5 0, Value.int 0 0, Value.int 0 0, Value.int 0 0, Value.int 0 0, Value.ref 25, Value.bool Bool.false, Value.int 181 0, Value.ref 26, Value.none, Value.none, Value.none, Value.none, Value.int 201 0, Value.int 5 0, Value.str (Str.ofString "/claim/cut.py") 202]) #[]
noncomputable def ob2_28 (P : Params) : Obj := Obj.mk (Value.type "frame") none Data.plain #[Option.some (Value.ref 27), Option.some (Value.ref 3), Option.some (Value.ref 24), none, Option.some (Value.str (Str.ofString "cpy313.tabnanny") 194), none, Option.some (Value.ref 0)]
noncomputable def ob2_29 (P : Params) : Obj := Obj.mk (Value.type "str_ascii_iterator") none (Data.fields #[Value.none, Value.int 2 0]) #[]
noncomputable def ob2_30 (P : Params) : Obj := Obj.mk (Value.type "tuple") none (Data.seq #[]) #[]
noncomputable def ob2_31 (P : Params) : Obj := Obj.mk (Value.type "StopIteration") none (Data.fields #[Value.ref 30, Value.none, Value.none, Value.none, Value.bool Bool.false, Value.none]) #[]
noncomputable def ob2_32 (P : Params) : Obj := Obj.mk (Value.type "tuple") none (Data.seq #[]) #[]
noncomputable def ob2_33 (P : Params) : Obj := Obj.mk Value.none none (Data.fields #[]) #[]
noncomputable def ob2_34 (P : Params) : Obj := Obj.mk (Value.type "tuple") none (Data.seq #[Value.str (Str.ofString "self") 216, Value.str (Str.ofString "ws") 217, Value.str (Str.ofString "S") 218, Value.str (Str.ofString "T") 219, Value.str (Str.ofString "count") 220, Value.str (Str.ofString "b") 221, Value.str (Str.ofString "n") 222, Value.str (Str.ofString "nt") 223, Value.str (Str.ofString "ch") 224]) #[]
noncomputable def ob2_35 (P : Params) : Obj := Obj.mk (Value.type "tuple") none (Data.seq #[]) #[]
noncomputable def ob2_36 (P : Params) : Obj := Obj.mk Value.none none (Data.func (FuncData.mk (Str.ofString "__init__") (Str.ofString "Whitespace.__init__") (fnArgs (nthS (clsBody (stm 2)) 1)) (FuncBody.stmts (fnBody (nthS (clsBody (stm 2)) 1))) (fnScope (nthS (clsBody (stm 2)) 1)) 0 [] Value.none Value.none Value.none Value.none none Value.none Value.none 0)) #[]
noncomputable def ob2_37 (P : Params) : Obj := Obj.mk (Value.type "code") none (Data.fields #[Value.str (Str.ofString "__init__") 213, Value.str (Str.ofString "Whitespace.__init__") 214, Value.str (Str.ofString "/claim/cut.py") 215, Value.int 8 0, Value.int 2 0, Value.int 0 0, Value.int 0 0, Value.int 3 0, Value.ref 32, Value.bool Bool.true, Value.int 181 0, Value.ref 33, Value.none, Value.ref 34, Value.ref 35, Value.ref 36, Value.int 225 0, Value.int 8 0, Value.str (Str.ofString "/claim/cut.py") 226]) #[]
noncomputable def ob2_38 (P : Params) : Obj := Obj.mk (Value.type "function") none (Data.func (FuncData.mk (Str.ofString "__init__") (Str.ofString "Whitespace.__init__") (fnArgs (nthS (clsBody (stm 2)) 1)) (FuncBody.stmts (fnBody (nthS (clsBody (stm 2)) 1))) (fnScope (nthS (clsBody (stm 2)) 1)) 3 [] Value.none Value.none Value.none (Value.str (Str.ofString "cpy313.tabnanny") 194) none (Value.ref 37) Value.none 0)) #[]
noncomputable def ob2_39 (P : Params) : Obj := Obj.mk (Value.type "tuple") none (Data.seq #[]) #[]
noncomputable def ob2_40 (P : Params) : Obj := Obj.mk Value.none none (Data.fields #[]) #[]
noncomputable def ob2_41 (P : Params) : Obj := Obj.mk (Value.type "tuple") none (Data.seq #[Value.str (Str.ofString "self") 231, Value.str (Str.ofString "count") 232, Value.str (Str.ofString "trailing") 233]) #[]
noncomputable def ob2_42 (P : Params) : Obj := Obj.mk (Value.type "tuple") none (Data.seq #[]) #[]
noncomputable def ob2_43 (P : Params) : Obj := Obj.mk Value.none none (Data.func (FuncData.mk (Str.ofString "longest_run_of_spaces") (Str.ofString "Whitespace.longest_run_of_spaces") (fnArgs (nthS (clsBody (stm 2)) 2)) (FuncBody.stmts (fnBody (nthS (clsBody (stm 2)) 2))) (fnScope (nthS (clsBody (stm 2)) 2)) 0 [] Value.none Value.none Value.none Value.none none Value.none Value.none 0)) #[]
noncomputable def ob2_44 (P : Params) : Obj := Obj.mk (Value.type "code") none (Data.fields #[Value.str (Str.ofString "longest_run_of_spaces") 228, Value.str (Str.ofString "Whitespace.longest_run_of_spaces") 229, Value.str (Str.ofString "/claim/cut.py") 230, Value.int 31 0, Value.int 1 0, Value.int 0 0, Value.int 0 0, Value.int 3 0, Value.ref 39, Value.bool Bool.true, Value.int 181 0, Value.ref 40, Value.none, Value.ref 41, Value.ref 42, Value.ref 43, Value.int 234 0, Value.int 31 0, Value.str (Str.ofString "/claim/cut.py") 235]) #[]
noncomputable def ob2_45 (P : Params) : Obj := Obj.mk (Value.type "function") none (Data.func (FuncData.mk (Str.ofString "longest_run_of_spaces") (Str.ofString "Whitespace.longest_run_of_spaces") (fnArgs (nthS (clsBody (stm 2)) 2)) (FuncBody.stmts (fnBody (nthS (clsBody (stm 2)) 2))) (fnScope (nthS (clsBody (stm 2)) 2)) 3 [] Value.none Value.none Value.none (Value.str (Str.ofString "cpy313.tabnanny") 194) none (Value.ref 44) Value.none 0)) #[]
noncomputable def ob2_46 (P : Params) : Obj := Obj.mk (Value.type "tuple") none (Data.seq #[]) #[]
noncomputable def ob2_47 (P : Params) : Obj := Obj.mk Value.none none (Data.fields #[]) #[]
noncomputable def ob2_48 (P : Params) : Obj := Obj.mk (Value.type "tuple") none (Data.seq #[Value.str (Str.ofString "self") 240, Value.str (Str.ofString "tabsize") 241, Value.str (Str.ofString "count") 242, Value.str (Str.ofString "trailing") 243, Value.str (Str.ofString "il") 244, Value.str (Str.ofString "i") 245]) #[]
noncomputable def ob2_49 (P : Params) : Obj := Obj.mk (Value.type "tuple") none (Data.seq #[]) #[]
noncomputable def ob2_50 (P : Params) : Obj := Obj.mk Value.none none (Data.func (FuncData.mk (Str.ofString "indent_level") (Str.ofString "Whitespace.indent_level") (fnArgs (nthS (clsBody (stm 2)) 3)) (FuncBody.stmts (fnBody (nthS (clsBody (stm 2)) 3))) (fnScope (nthS (clsBody (stm 2)) 3)) 0 [] Value.none Value.none Value.none Value.none none Value.none Value.none 0)) #[]
noncomputable def ob2_51 (P : Params) : Obj := Obj.mk (Value.type "code") none (Data.fields #[Value.str (Str.ofString "indent_level") 237, Value.str (Str.ofString "Whitespace.indent_level") 238, Value.str (Str.ofString "/claim/cut.py") 239, Value.int 35 0, Value.int 2 0, Value.int 0 0, Value.int 0 0, Value.int 3 0, Value.ref 46, Value.bool Bool.true, Value.int 181 0, Value.ref 47, Value.none, Value.ref 48, Value.ref 49, Value.ref 50, Value.int 246 0, Value.int 35 0, Value.str (Str.ofString "/claim/cut.py") 247]) #[]
noncomputable def ob2_52 (P : Params) : Obj := Obj.mk (Value.type "function") none (Data.func (FuncData.mk (Str.ofString "indent_level") (Str.ofString "Whitespace.indent_level") (fnArgs (nthS (clsBody (stm 2)) 3)) (FuncBody.stmts (fnBody (nthS (clsBody (stm 2)) 3))) (fnScope (nthS (clsBody (stm 2)) 3)) 3 [] Value.none Value.none Value.none (Value.str (Str.ofString "cpy313.tabnanny") 194) none (Value.ref 51) Value.none 0)) #[]
noncomputable def ob2_53 (P : Params) : Obj := Obj.mk (Value.type "tuple") none (Data.seq #[]) #[]
noncomputable def ob2_54 (P : Params) : Obj := Obj.mk Value.none none (Data.fields #[]) #[]
noncomputable def ob2_55 (P : Params) : Obj := Obj.mk (Value.type "tuple") none (Data.seq #[Value.str (Str.ofString "self") 252, Value.str (Str.ofString "other") 253]) #[]
noncomputable def ob2_56 (P : Params) : Obj := Obj.mk (Value.type "tuple") none (Data.seq #[]) #[]
noncomputable def ob2_57 (P : Params) : Obj := Obj.mk Value.none none (Data.func (FuncData.mk (Str.ofString "equal") (Str.ofString "Whitespace.equal") (fnArgs (nthS (clsBody (stm 2)) 4)) (FuncBody.stmts (fnBody (nthS (clsBody (stm 2)) 4))) (fnScope (nthS (clsBody (stm 2)) 7)) 0 [] Value.none Value.none Value.none Value.none none Value.none Value.none 0)) #[]
noncomputable def ob2_58 (P : Params) : Obj := Obj.mk (Value.type "code") none (Data.fields #[Value.str (Str.ofString "equal") 249, Value.str (Str.ofString "Whitespace.equal") 250, Value.str (Str.ofString "/claim/cut.py") 251, Value.int 42 0, Value.int 2 0, Value.int 0 0, Value.int 0 0, Value.int 3 0, Value.ref 53, Value.bool Bool.true, Value.int 181 0, Value.ref 54, Value.none, Value.ref 55, Value.ref 56, Value.ref 57, Value.int 254 0, Value.int 42 0, Value.str (Str.ofString "/claim/cut.py") 255]) #[]
noncomputable def ob2_59 (P : Params) : Obj := Obj.mk (Value.type "function") none (Data.func (FuncData.mk (Str.ofString "equal") (Str.ofString "Whitespace.equal") (fnArgs (nthS (clsBody (stm 2)) 4)) (FuncBody.stmts (fnBody (nthS (clsBody (stm 2)) 4))) (fnScope (nthS (clsBody (stm 2)) 7)) 3 [] Value.none Value.none Value.none (Value.str (Str.ofString "cpy313.tabnanny") 194) none (Value.ref 58) Value.none 0)) #[]
noncomputable def ob2_60 (P : Params) : Obj := Obj.mk (Value.type "tuple") none (Data.seq #[]) #[]
noncomputable def ob2_61 (P : Params) : Obj := Obj.mk Value.none none (Data.fields #[]) #[]
noncomputable def ob2_62 (P : Params) : Obj := Obj.mk (Value.type "tuple") none (Data.seq #[Value.str (Str.ofString "self") 260, Value.str (Str.ofString "other") 261]) #[]
noncomputable def ob2_63 (P : Params) : Obj := Obj.mk (Value.type "tuple") none (Data.seq #[]) #[]
noncomputable def ob2_64 (P : Params) : Obj := Obj.mk Value.none none (Data.func (FuncData.mk (Str.ofString "not_equal_witness") (Str.ofString "Whitespace.not_equal_witness") (fnArgs (nthS (clsBody (stm 2)) 5)) (FuncBody.stmts (fnBody (nthS (clsBody (stm 2)) 5))) (fnScope (nthS (clsBody (stm 2)) 7)) 0 [] Value.none Value.none Value.none Value.none none Value.none Value.none 0)) #[]
noncomputable def ob2_65 (P : Params) : Obj := Obj.mk (Value.type "code") none (Data.fields #[Value.str (Str.ofString "not_equal_witness") 257, Value.str (Str.ofString "Whitespace.not_equal_witness") 258, Value.str (Str.ofString "/claim/cut.py") 259, Value.int 45 0, Value.int 2 0, Value.int 0 0, Value.int 0 0, Value.int 3 0, Value.ref 60, Value.bool Bool.true, Value.int 181 0, Value.ref 61, Value.none, Value.ref 62, Value.ref 63, Value.ref 64, Value.int 262 0, Value.int 45 0, Value.str (Str.ofString "/claim/cut.py") 263]) #[]
noncomputable def ob2_66 (P : Params) : Obj := Obj.mk (Value.type "function") none (Data.func (FuncData.mk (Str.ofString "not_equal_witness") (Str.ofString "Whitespace.not_equal_witness") (fnArgs (nthS (clsBody (stm 2)) 5)) (FuncBody.stmts (fnBody (nthS (clsBody (stm 2)) 5))) (fnScope (nthS (clsBody (stm 2)) 7)) 3 [] Value.none Value.none Value.none (Value.str (Str.ofString "cpy313.tabnanny") 194) none (Value.ref 65) Value.none 0)) #[]
noncomputable def ob2_67 (P : Params) : Obj := Obj.mk (Value.type "tuple") none (Data.seq #[]) #[]
noncomputable def ob2_68 (P : Params) : Obj := Obj.mk Value.none none (Data.fields #[]) #[]
noncomputable def ob2_69 (P : Params) : Obj := Obj.mk (Value.type "tuple") none (Data.seq #[Value.str (Str.ofString "self") 268, Value.str (Str.ofString "other") 269, Value.str (Str.ofString "n") 270, Value.str (Str.ofString "ts") 271]) #[]
noncomputable def ob2_70 (P : Params) : Obj := Obj.mk (Value.type "tuple") none (Data.seq #[]) #[]
noncomputable def ob2_71 (P : Params) : Obj := Obj.mk Value.none none (Data.func (FuncData.mk (Str.ofString "less") (Str.ofString "Whitespace.less") (fnArgs (nthS (clsBody (stm 2)) 6)) (FuncBody.stmts (fnBody (nthS (clsBody (stm 2)) 6))) (fnScope (nthS (clsBody (stm 2)) 6)) 0 [] Value.none Value.none Value.none Value.none none Value.none Value.none 0)) #[]
noncomputable def ob2_72 (P : Params) : Obj := Obj.mk (Value.type "code") none (Data.fields #[Value.str (Str.ofString "less") 265, Value.str (Str.ofString "Whitespace.less") 266, Value.str (Str.ofString "/claim/cut.py") 267, Value.int 48 0, Value.int 2 0, Value.int 0 0, Value.int 0 0, Value.int 3 0, Value.ref 67, Value.bool Bool.true, Value.int 181 0, Value.ref 68, Value.none, Value.ref 69, Value.ref 70, Value.ref 71, Value.int 272 0, Value.int 48 0, Value.str (Str.ofString "/claim/cut.py") 273]) #[]
noncomputable def ob2_73 (P : Params) : Obj := Obj.mk (Value.type "function") none (Data.func (FuncData.mk (Str.ofString "less") (Str.ofString "Whitespace.less") (fnArgs (nthS (clsBody (stm 2)) 6)) (FuncBody.stmts (fnBody (nthS (clsBody (stm 2)) 6))) (fnScope (nthS (clsBody (stm 2)) 6)) 3 [] Value.none Value.none Value.none (Value.str (Str.ofString "cpy313.tabnanny") 194) none (Value.ref 72) Value.none 0)) #[]
noncomputable def ob2_74 (P : Params) : Obj := Obj.mk (Value.type "tuple") none (Data.seq #[]) #[]
noncomputable def ob2_75 (P : Params) : Obj := Obj.mk Value.none none (Data.fields #[]) #[]
noncomputable def ob2_76 (P : Params) : Obj := Obj.mk (Value.type "tuple") none (Data.seq #[Value.str (Str.ofString "self") 278, Value.str (Str.ofString "other") 279]) #[]
noncomputable def ob2_77 (P : Params) : Obj := Obj.mk (Value.type "tuple") none (Data.seq #[]) #[]
noncomputable def ob2_78 (P : Params) : Obj := Obj.mk Value.none none (Data.func (FuncData.mk (Str.ofString "not_less_witness") (Str.ofString "Whitespace.not_less_witness") (fnArgs (nthS (clsBody (stm 2)) 7)) (FuncBody.stmts (fnBody (nthS (clsBody (stm 2)) 7))) (fnScope (nthS (clsBody (stm 2)) 7)) 0 [] Value.none Value.none Value.none Value.none none Value.none Value.none 0)) #[]
noncomputable def ob2_79 (P : Params) : Obj := Obj.mk (Value.type "code") none (Data.fields #[Value.str (Str.ofString "not_less_witness") 275, Value.str (Str.ofString "Whitespace.not_less_witness") 276, Value.str (Str.ofString "/claim/cut.py") 277, Value.int 59 0, Value.int 2 0, Value.int 0 0, Value.int 0 0, Value.int 3 0, Value.ref 74, Value.bool Bool.true, Value.int 181 0, Value.ref 75, Value.none, Value.ref 76, Value.ref 77, Value.ref 78, Value.int 280 0, Value.int 59 0, Value.str (Str.ofString "/claim/cut.py") 281]) #[]
noncomputable def ob2_80 (P : Params) : Obj := Obj.mk (Value.type "function") none (Data.func (FuncData.mk (Str.ofString "not_less_witness") (Str.ofString "Whitespace.not_less_witness") (fnArgs (nthS (clsBody (stm 2)) 7)) (FuncBody.stmts (fnBody (nthS (clsBody (stm 2)) 7))) (fnScope (nthS (clsBody (stm 2)) 7)) 3 [] Value.none Value.none Value.none (Value.str (Str.ofString "cpy313.tabnanny") 194) none (Value.ref 79) Value.none 0)) #[]
noncomputable def ob2_81 (P : Params) : Obj := Obj.mk (Value.type "tuple") none (Data.seq #[Value.str (Str.ofString "is_simple") 283, Value.str (Str.ofString "n") 284, Value.str (Str.ofString "norm") 285, Value.str (Str.ofString "nt") 286, Value.str (Str.ofString "raw") 287]) #[]
noncomputable def ob2_82 (P : Params) : Obj := Obj.mk (Value.type "dict") none (Data.dict #[DictEntry.mk (PyData.keyHash P (Str.ofString "__module__")) (Value.str (Str.ofString "__module__") 203) (Value.str (Str.ofString "cpy313.tabnanny") 194), DictEntry.mk (PyData.keyHash P (Str.ofString "__firstlineno__")) (Value.str (Str.ofString "__firstlineno__") 207) (Value.int 5 206), DictEntry.mk (PyData.keyHash P (Str.ofString "S")) (Value.str (Str.ofString "S") 211) (Value.str (Str.ofString " ") 209), DictEntry.mk (PyData.keyHash P (Str.ofString "T")) (Value.str (Str.ofString "T") 212) (Value.str (Str.ofString "\t") 210), DictEntry.mk (PyData.keyHash P (Str.ofString "__init__")) (Value.str (Str.ofString "__init__") 227) (Value.ref 38), DictEntry.mk (PyData.keyHash P (Str.ofString "longest_run_of_spaces")) (Value.str (Str.ofString "longest_run_of_spaces") 236) (Value.ref 45), DictEntry.mk (PyData.keyHash P (Str.ofString "indent_level")) (Value.str (Str.ofString "indent_level") 248) (Value.ref 52), DictEntry.mk (PyData.keyHash P (Str.ofString "equal")) (Value.str (Str.ofString "equal") 256) (Value.ref 59), DictEntry.mk (PyData.keyHash P (Str.ofString "not_equal_witness")) (Value.str (Str.ofString "not_equal_witness") 264) (Value.ref 66), DictEntry.mk (PyData.keyHash P (Str.ofString "less")) (Value.str (Str.ofString "less") 274) (Value.ref 73), DictEntry.mk (PyData.keyHash P (Str.ofString "not_less_witness")) (Value.str (Str.ofString "not_less_witness") 282) (Value.ref 80), DictEntry.mk (PyData.keyHash P (Str.ofString "__static_attributes__")) (Value.str (Str.ofString "__static_attributes__") 288) (Value.ref 81), DictEntry.mk (PyData.keyHash P (Str.ofString "__dict__")) (Value.str (Str.ofString "__dict__") 290) (Value.ref 84), DictEntry.mk (PyData.keyHash P (Str.ofString "__weakref__")) (Value.str (Str.ofString "__weakref__") 292) (Value.ref 85), DictEntry.mk (PyData.keyHash P (Str.ofString "__doc__")) (Value.str (Str.ofString "__doc__") 293) Value.none] 4) #[]
noncomputable def ob2_83 (P : Params) : Obj := Obj.mk (Value.type "type") none (Data.cls (ClassData.mk (Str.ofString "Whitespace") [Value.type "object"] [Value.ref 83, Value.type "object"] 82 (Str.ofString "Whitespace") Bool.true [] [] Bool.false none Bool.false)) #[none, none, Option.some (Value.str (Str.ofString "Whitespace") 196), Option.some (Value.str (Str.ofString "Whitespace") 204), Option.some (Value.builtin "object.__new__"), Option.some (Value.bool Bool.true)]
noncomputable def ob2_84 (P : Params) : Obj := Obj.mk (Value.type "getset_descriptor") none (Data.fields #[Value.str (Str.ofString "__dict__") 289, Value.ref 83, Value.builtin "function.__dict__", Value.builtin "function.__dict__#set"]) #[]
noncomputable def ob2_85 (P : Params) : Obj := Obj.mk (Value.type "getset_descriptor") none (Data.fields #[Value.str (Str.ofString "__weakref__") 291, Value.ref 83, Value.builtin "ExceptionGroup.__weakref__", Value.none]) #[]
noncomputable def ob2_86 (P : Params) : Obj := Obj.mk (Value.type "super") none (Data.fields #[Value.ref 83, Value.ref 83, Value.ref 83]) #[]
noncomputable def ob2_87 (P : Params) : Obj := Obj.mk (Value.type "builtin_function_or_method") none (Data.fields #[Value.builtin "object.__init_subclass__", Value.ref 83]) #[]
noncomputable def tree2 (P : Params) : BT := (.node (boot_o_0 P) (.node (boot_o_1 P) (.node (ob2_3 P) (.node (boot_o_7 P) (.node (ob1_15 P) (.node (ob2_31 P) (.node (ob2_63 P) .nil .nil) .nil) (.node (ob2_47 P) (.node (ob2_79 P) .nil .nil) .nil)) (.node (ob2_23 P) (.node (ob2_39 P) (.node (ob2_71 P) .nil .nil) .nil) (.node (ob2_55 P) (.node (ob2_87 P) .nil .nil) .nil))) (.node (ob100_11 P) (.node (ob1_19 P) (.node (ob2_35 P) (.node (ob2_67 P) .nil .nil) .nil) (.node (ob2_51 P) (.node (ob2_83 P) .nil .nil) .nil)) (.node (ob2_27 P) (.node (ob2_43 P) (.node (ob2_75 P) .nil .nil) .nil) (.node (ob2_59 P) .nil .nil)))) (.node (boot_o_5 P) (.node (boot_o_9 P) (.node (ob1_17 P) (.node (ob2_33 P) (.node (ob2_65 P) .nil .nil) .nil) (.node (ob2_49 P) (.node (ob2_81 P) .nil .nil) .nil)) (.node (ob2_25 P) (.node (ob2_41 P) (.node (ob2_73 P) .nil .nil) .nil) (.node (ob2_57 P) .nil .nil))) (.node (ob100_13 P) (.node (ob1_21 P) (.node (ob2_37 P) (.node (ob2_69 P) .nil .nil) .nil) (.node (ob2_53 P) (.node (ob2_85 P) .nil .nil) .nil)) (.node (ob2_29 P) (.node (ob2_45 P) (.node (ob2_77 P) .nil .nil) .nil) (.node (ob2_61 P) .nil .nil))))) (.node (boot_o_2 P) (.node (boot_o_4 P) (.node (boot_o_8 P) (.node (ob1_16 P) (.node (ob2_32 P) (.node (ob2_64 P) .nil .nil) .nil) (.node (ob2_48 P) (.node (ob2_80 P) .nil .nil) .nil)) (.node (ob2_24 P) (.node (ob2_40 P) (.node (ob2_72 P) .nil .nil) .nil) (.node (ob2_56 P) .nil .nil))) (.node (ob2_12 P) (.node (ob1_20 P) (.node (ob2_36 P) (.node (ob2_68 P) .nil .nil) .nil) (.node (ob2_52 P) (.node (ob2_84 P) .nil .nil) .nil)) (.node (ob2_28 P) (.node (ob2_44 P) (.node (ob2_76 P) .nil .nil) .nil) (.node (ob2_60 P) .nil .nil)))) (.node (boot_o_6 P) (.node (boot_o_10 P) (.node (ob1_18 P) (.node (ob2_34 P) (.node (ob2_66 P) .nil .nil) .nil) (.node (ob2_50 P) (.node (ob2_82 P) .nil .nil) .nil)) (.node (ob2_26 P) (.node (ob2_42 P) (.node (ob2_74 P) .nil .nil) .nil) (.node (ob2_58 P) .nil .nil))) (.node (ob100_14 P) (.node (ob2_22 P) (.node (ob2_38 P) (.node (ob2_70 P) .nil .nil) .nil) (.node (ob2_54 P) (.node (ob2_86 P) .nil .nil) .nil)) (.node (ob2_30 P) (.node (ob2_46 P) (.node (ob2_78 P) .nil .nil) .nil) (.node (ob2_62 P) .nil .nil))))))
noncomputable def st2 (w : World) (os : OsState) : SharedT := ⟨tree2 w.params, 88, {}, ⟨[]⟩, {}, 296, os⟩
noncomputable def ob10_3 (P : Params) : Obj := Obj.mk (Value.type "dict") none (Data.dict #[DictEntry.mk (PyData.keyHash P (Str.ofString "__name__")) (Value.str (Str.ofString "__name__") 165) (Value.str (Str.ofString "cpy313.stringprep") 373), DictEntry.mk (PyData.keyHash P (Str.ofString "__doc__")) (Value.str (Str.ofString "__doc__") 166) Value.none, DictEntry.mk (PyData.keyHash P (Str.ofString "__package__")) (Value.str (Str.ofString "__package__") 167) Value.none, DictEntry.mk (PyData.keyHash P (Str.ofString "__loader__")) (Value.str (Str.ofString "__loader__") 168) (Value.builtin "__main__.__loader__#opaque"), DictEntry.mk (PyData.keyHash P (Str.ofString "__spec__")) (Value.str (Str.ofString "__spec__") 169) Value.none, DictEntry.mk (PyData.keyHash P (Str.ofString "__annotations__")) (Value.str (Str.ofString "__annotations__") 170) (Value.ref 6), DictEntry.mk (PyData.keyHash P (Str.ofString "__builtins__")) (Value.str (Str.ofString "__builtins__") 171) (Value.ref 4), DictEntry.mk (PyData.keyHash P (Str.ofString "__file__")) (Value.str (Str.ofString "__file__") 173) (Value.str (Str.ofString "/claim/cut.py") 172), DictEntry.mk (PyData.keyHash P (Str.ofString "__cached__")) (Value.str (Str.ofString "__cached__") 174) Value.none, DictEntry.mk (PyData.keyHash P (Str.ofString "_wall")) (Value.str (Str.ofString "_wall") 193) (Value.ref 21), DictEntry.mk (PyData.keyHash P (Str.ofString "Whitespace")) (Value.str (Str.ofString "Whitespace") 295) (Value.ref 83), DictEntry.mk (PyData.keyHash P (Str.ofString "COMPILER_FLAG_NAMES")) (Value.str (Str.ofString "COMPILER_FLAG_NAMES") 328) (Value.ref 88), DictEntry.mk (PyData.keyHash P (Str.ofString "pretty_flags")) (Value.str (Str.ofString "pretty_flags") 338) (Value.ref 95), DictEntry.mk (PyData.keyHash P (Str.ofString "_iter_escaped_chars")) (Value.str (Str.ofString "_iter_escaped_chars") 350) (Value.ref 102), DictEntry.mk (PyData.keyHash P (Str.ofString "_strip_quoted_realnames")) (Value.str (Str.ofString "_strip_quoted_realnames") 362) (Value.ref 109), DictEntry.mk (PyData.keyHash P (Str.ofString "_check_parenthesis")) (Value.str (Str.ofString "_check_parenthesis") 372) (Value.ref 116)] 16) #[]
noncomputable def ob10_12 (P : Params) : Obj := Obj.mk Value.none none (Data.fields #[Value.int 1 0, Value.int 0 0, Value.ref 20, Value.int 5 0, Value.int 0 0, Value.ref 27, Value.int 63 0, Value.int 0 0, Value.ref 94, Value.int 76 0, Value.int 0 0, Value.ref 101, Value.int 89 0, Value.int 0 0, Value.ref 108, Value.int 107 0, Value.int 0 0, Value.ref 115]) #[]
noncomputable def ob10_88 (P : Params) : Obj := Obj.mk (Value.type "dict") none (Data.dict #[DictEntry.mk 1 (Value.int 1 298) (Value.str (Str.ofString "OPTIMIZED") 299), DictEntry.mk 2 (Value.int 2 300) (Value.str (Str.ofString "NEWLOCALS") 301), DictEntry.mk 4 (Value.int 4 302) (Value.str (Str.ofString "VARARGS") 303), DictEntry.mk 8 (Value.int 8 304) (Value.str (Str.ofString "VARKEYWORDS") 305), DictEntry.mk 16 (Value.int 16 306) (Value.str (Str.ofString "NESTED") 307), DictEntry.mk 32 (Value.int 32 308) (Value.str (Str.ofString "GENERATOR") 309), DictEntry.mk 64 (Value.int 64 310) (Value.str (Str.ofString "NOFREE") 311), DictEntry.mk 128 (Value.int 128 312) (Value.str (Str.ofString "COROUTINE") 313), DictEntry.mk 256 (Value.int 256 314) (Value.str (Str.ofString "ITERABLE_COROUTINE") 315), DictEntry.mk 512 (Value.int 512 316) (Value.str (Str.ofString "ASYNC_GENERATOR") 317)] 10) #[]
noncomputable def ob10_89 (P : Params) : Obj := Obj.mk (Value.type "tuple") none (Data.seq #[]) #[]
noncomputable def ob10_90 (P : Params) : Obj := Obj.mk Value.none none (Data.fields #[]) #[]
noncomputable def ob10_91 (P : Params) : Obj := Obj.mk (Value.type "tuple") none (Data.seq #[Value.str (Str.ofString "flags") 332, Value.str (Str.ofString "names") 333, Value.str (Str.ofString "i") 334, Value.str (Str.ofString "flag") 335]) #[]
noncomputable def ob10_92 (P : Params) : Obj := Obj.mk (Value.type "tuple") none (Data.seq #[]) #[]
noncomputable def ob10_93 (P : Params) : Obj := Obj.mk Value.none none (Data.func (FuncData.mk (Str.ofString "pretty_flags") (Str.ofString "pretty_flags") (fnArgs (stm 5)) (FuncBody.stmts (fnBody (stm 5))) (fnScope (stm 5)) 0 [] Value.none Value.none Value.none Value.none none Value.none Value.none 0)) #[]
noncomputable def ob10_94 (P : Params) : Obj := Obj.mk (Value.type "code") none (Data.fields #[Value.str (Str.ofString "pretty_flags") 329, Value.str (Str.ofString "pretty_flags") 330, Value.str (Str.ofString "/claim/cut.py") 331, Value.int 63 0, Value.int 1 0, Value.int 0 0, Value.int 0 0, Value.int 3 0, Value.ref 89, Value.bool Bool.true, Value.int 181 0, Value.ref 90, Value.none, Value.ref 91, Value.ref 92, Value.ref 93, Value.int 336 0, Value.int 63 0, Value.str (Str.ofString "/claim/cut.py") 337]) #[]
noncomputable def ob10_95 (P : Params) : Obj := Obj.mk (Value.type "function") none (Data.func (FuncData.mk (Str.ofString "pretty_flags") (Str.ofString "pretty_flags") (fnArgs (stm 5)) (FuncBody.stmts (fnBody (stm 5))) (fnScope (stm 5)) 3 [] Value.none Value.none Value.none (Value.str (Str.ofString "cpy313.dis") 296) none (Value.ref 94) Value.none 0)) #[]
noncomputable def ob10_96 (P : Params) : Obj := Obj.mk (Value.type "tuple") none (Data.seq #[]) #[]
noncomputable def ob10_97 (P : Params) : Obj := Obj.mk Value.none none (Data.fields #[]) #[]
noncomputable def ob10_98 (P : Params) : Obj := Obj.mk (Value.type "tuple") none (Data.seq #[Value.str (Str.ofString "addr") 344, Value.str (Str.ofString "pos") 345, Value.str (Str.ofString "escape") 346, Value.str (Str.ofString "ch") 347]) #[]
noncomputable def ob10_99 (P : Params) : Obj := Obj.mk (Value.type "tuple") none (Data.seq #[]) #[]
noncomputable def ob10_100 (P : Params) : Obj := Obj.mk Value.none none (Data.func (FuncData.mk (Str.ofString "_iter_escaped_chars") (Str.ofString "_iter_escaped_chars") (fnArgs (stm 7)) (FuncBody.stmts (fnBody (stm 7))) (fnScope (stm 7)) 0 [] Value.none Value.none Value.none Value.none none Value.none Value.none 0)) #[]
noncomputable def ob10_101 (P : Params) : Obj := Obj.mk (Value.type "code") none (Data.fields #[Value.str (Str.ofString "_iter_escaped_chars") 341, Value.str (Str.ofString "_iter_escaped_chars") 342, Value.str (Str.ofString "/claim/cut.py") 343, Value.int 76 0, Value.int 1 0, Value.int 0 0, Value.int 0 0, Value.int 35 0, Value.ref 96, Value.bool Bool.true, Value.int 181 0, Value.ref 97, Value.none, Value.ref 98, Value.ref 99, Value.ref 100, Value.int 348 0, Value.int 76 0, Value.str (Str.ofString "/claim/cut.py") 349]) #[]
noncomputable def ob10_102 (P : Params) : Obj := Obj.mk (Value.type "function") none (Data.func (FuncData.mk (Str.ofString "_iter_escaped_chars") (Str.ofString "_iter_escaped_chars") (fnArgs (stm 7)) (FuncBody.stmts (fnBody (stm 7))) (fnScope (stm 7)) 3 [] Value.none Value.none Value.none (Value.str (Str.ofString "cpy313.email.utils") 339) none (Value.ref 101) Value.none 0)) #[]
noncomputable def ob10_103 (P : Params) : Obj := Obj.mk (Value.type "tuple") none (Data.seq #[]) #[]
noncomputable def ob10_104 (P : Params) : Obj := Obj.mk Value.none none (Data.fields #[]) #[]
noncomputable def ob10_105 (P : Params) : Obj := Obj.mk (Value.type "tuple") none (Data.seq #[Value.str (Str.ofString "addr") 354, Value.str (Str.ofString "start") 355, Value.str (Str.ofString "open_pos") 356, Value.str (Str.ofString "result") 357, Value.str (Str.ofString "pos") 358, Value.str (Str.ofString "ch") 359]) #[]
noncomputable def ob10_106 (P : Params) : Obj := Obj.mk (Value.type "tuple") none (Data.seq #[]) #[]
noncomputable def ob10_107 (P : Params) : Obj := Obj.mk Value.none none (Data.func (FuncData.mk (Str.ofString "_strip_quoted_realnames") (Str.ofString "_strip_quoted_realnames") (fnArgs (stm 8)) (FuncBody.stmts (fnBody (stm 8))) (fnScope (stm 8)) 0 [] Value.none Value.none Value.none Value.none none Value.none Value.none 0)) #[]
noncomputable def ob10_108 (P : Params) : Obj := Obj.mk (Value.type "code") none (Data.fields #[Value.str (Str.ofString "_strip_quoted_realnames") 351, Value.str (Str.ofString "_strip_quoted_realnames") 352, Value.str (Str.ofString "/claim/cut.py") 353, Value.int 89 0, Value.int 1 0, Value.int 0 0, Value.int 0 0, Value.int 3 0, Value.ref 103, Value.bool Bool.true, Value.int 181 0, Value.ref 104, Value.none, Value.ref 105, Value.ref 106, Value.ref 107, Value.int 360 0, Value.int 89 0, Value.str (Str.ofString "/claim/cut.py") 361]) #[]
noncomputable def ob10_109 (P : Params) : Obj := Obj.mk (Value.type "function") none (Data.func (FuncData.mk (Str.ofString "_strip_quoted_realnames") (Str.ofString "_strip_quoted_realnames") (fnArgs (stm 8)) (FuncBody.stmts (fnBody (stm 8))) (fnScope (stm 8)) 3 [] Value.none Value.none Value.none (Value.str (Str.ofString "cpy313.email.utils") 339) none (Value.ref 108) Value.none 0)) #[]
noncomputable def ob10_110 (P : Params) : Obj := Obj.mk (Value.type "tuple") none (Data.seq #[]) #[]
noncomputable def ob10_111 (P : Params) : Obj := Obj.mk Value.none none (Data.fields #[]) #[]
noncomputable def ob10_112 (P : Params) : Obj := Obj.mk (Value.type "tuple") none (Data.seq #[Value.str (Str.ofString "addr") 366, Value.str (Str.ofString "opens") 367, Value.str (Str.ofString "pos") 368, Value.str (Str.ofString "ch") 369]) #[]
noncomputable def ob10_113 (P : Params) : Obj := Obj.mk (Value.type "tuple") none (Data.seq #[]) #[]
noncomputable def ob10_114 (P : Params) : Obj := Obj.mk Value.none none (Data.func (FuncData.mk (Str.ofString "_check_parenthesis") (Str.ofString "_check_parenthesis") (fnArgs (stm 9)) (FuncBody.stmts (fnBody (stm 9))) (fnScope (stm 9)) 0 [] Value.none Value.none Value.none Value.none none Value.none Value.none 0)) #[]
noncomputable def ob10_115 (P : Params) : Obj := Obj.mk (Value.type "code") none (Data.fields #[Value.str (Str.ofString "_check_parenthesis") 363, Value.str (Str.ofString "_check_parenthesis") 364, Value.str (Str.ofString "/claim/cut.py") 365, Value.int 107 0, Value.int 1 0, Value.int 0 0, Value.int 0 0, Value.int 3 0, Value.ref 110, Value.bool Bool.true, Value.int 181 0, Value.ref 111, Value.none, Value.ref 112, Value.ref 113, Value.ref 114, Value.int 370 0, Value.int 107 0, Value.str (Str.ofString "/claim/cut.py") 371]) #[]
noncomputable def ob10_116 (P : Params) : Obj := Obj.mk (Value.type "function") none (Data.func (FuncData.mk (Str.ofString "_check_parenthesis") (Str.ofString "_check_parenthesis") (fnArgs (stm 9)) (FuncBody.stmts (fnBody (stm 9))) (fnScope (stm 9)) 3 [] Value.none Value.none Value.none (Value.str (Str.ofString "cpy313.email.utils") 339) none (Value.ref 115) Value.none 0)) #[]
noncomputable def tree10 (P : Params) : BT := (.node (boot_o_0 P) (.node (boot_o_1 P) (.node (ob10_3 P) (.node (boot_o_7 P) (.node (ob1_15 P) (.node (ob2_31 P) (.node (ob2_63 P) .nil .nil) (.node (ob10_95 P) .nil .nil)) (.node (ob2_47 P) (.node (ob2_79 P) .nil .nil) (.node (ob10_111 P) .nil .nil))) (.node (ob2_23 P) (.node (ob2_39 P) (.node (ob2_71 P) .nil .nil) (.node (ob10_103 P) .nil .nil)) (.node (ob2_55 P) (.node (ob2_87 P) .nil .nil) .nil))) (.node (ob100_11 P) (.node (ob1_19 P) (.node (ob2_35 P) (.node (ob2_67 P) .nil .nil) (.node (ob10_99 P) .nil .nil)) (.node (ob2_51 P) (.node (ob2_83 P) .nil .nil) (.node (ob10_115 P) .nil .nil))) (.node (ob2_27 P) (.node (ob2_43 P) (.node (ob2_75 P) .nil .nil) (.node (ob10_107 P) .nil .nil)) (.node (ob2_59 P) (.node (ob10_91 P) .nil .nil) .nil)))) (.node (boot_o_5 P) (.node (boot_o_9 P) (.node (ob1_17 P) (.node (ob2_33 P) (.node (ob2_65 P) .nil .nil) (.node (ob10_97 P) .nil .nil)) (.node (ob2_49 P) (.node (ob2_81 P) .nil .nil) (.node (ob10_113 P) .nil .nil))) (.node (ob2_25 P) (.node (ob2_41 P) (.node (ob2_73 P) .nil .nil) (.node (ob10_105 P) .nil .nil)) (.node (ob2_57 P) (.node (ob10_89 P) .nil .nil) .nil))) (.node (ob100_13 P) (.node (ob1_21 P) (.node (ob2_37 P) (.node (ob2_69 P) .nil .nil) (.node (ob10_101 P) .nil .nil)) (.node (ob2_53 P) (.node (ob2_85 P) .nil .nil) .nil)) (.node (ob2_29 P) (.node (ob2_45 P) (.node (ob2_77 P) .nil .nil) (.node (ob10_109 P) .nil .nil)) (.node (ob2_61 P) (.node (ob10_93 P) .nil .nil) .nil))))) (.node (boot_o_2 P) (.node (boot_o_4 P) (.node (boot_o_8 P) (.node (ob1_16 P) (.node (ob2_32 P) (.node (ob2_64 P) .nil .nil) (.node (ob10_96 P) .nil .nil)) (.node (ob2_48 P) (.node (ob2_80 P) .nil .nil) (.node (ob10_112 P) .nil .nil))) (.node (ob2_24 P) (.node (ob2_40 P) (.node (ob2_72 P) .nil .nil) (.node (ob10_104 P) .nil .nil)) (.node (ob2_56 P) (.node (ob10_88 P) .nil .nil) .nil))) (.node (ob10_12 P) (.node (ob1_20 P) (.node (ob2_36 P) (.node (ob2_68 P) .nil .nil) (.node (ob10_100 P) .nil .nil)) (.node (ob2_52 P) (.node (ob2_84 P) .nil .nil) (.node (ob10_116 P) .nil .nil))) (.node (ob2_28 P) (.node (ob2_44 P) (.node (ob2_76 P) .nil .nil) (.node (ob10_108 P) .nil .nil)) (.node (ob2_60 P) (.node (ob10_92 P) .nil .nil) .nil)))) (.node (boot_o_6 P) (.node (boot_o_10 P) (.node (ob1_18 P) (.node (ob2_34 P) (.node (ob2_66 P) .nil .nil) (.node (ob10_98 P) .nil .nil)) (.node (ob2_50 P) (.node (ob2_82 P) .nil .nil) (.node (ob10_114 P) .nil .nil))) (.node (ob2_26 P) (.node (ob2_42 P) (.node (ob2_74 P) .nil .nil) (.node (ob10_106 P) .nil .nil)) (.node (ob2_58 P) (.node (ob10_90 P) .nil .nil) .nil))) (.node (ob100_14 P) (.node (ob2_22 P) (.node (ob2_38 P) (.node (ob2_70 P) .nil .nil) (.node (ob10_102 P) .nil .nil)) (.node (ob2_54 P) (.node (ob2_86 P) .nil .nil) .nil)) (.node (ob2_30 P) (.node (ob2_46 P) (.node (ob2_78 P) .nil .nil) (.node (ob10_110 P) .nil .nil)) (.node (ob2_62 P) (.node (ob10_94 P) .nil .nil) .nil))))))
noncomputable def st10 (w : World) (os : OsState) : SharedT := ⟨tree10 w.params, 117, {}, ⟨[]⟩, {}, 375, os⟩
noncomputable def ob11_3 (P : Params) : Obj := Obj.mk (Value.type "dict") none (Data.dict #[DictEntry.mk (PyData.keyHash P (Str.ofString "__name__")) (Value.str (Str.ofString "__name__") 165) (Value.str (Str.ofString "cpy313.stringprep") 373), DictEntry.mk (PyData.keyHash P (Str.ofString "__doc__")) (Value.str (Str.ofString "__doc__") 166) Value.none, DictEntry.mk (PyData.keyHash P (Str.ofString "__package__")) (Value.str (Str.ofString "__package__") 167) Value.none, DictEntry.mk (PyData.keyHash P (Str.ofString "__loader__")) (Value.str (Str.ofString "__loader__") 168) (Value.builtin "__main__.__loader__#opaque"), DictEntry.mk (PyData.keyHash P (Str.ofString "__spec__")) (Value.str (Str.ofString "__spec__") 169) Value.none, DictEntry.mk (PyData.keyHash P (Str.ofString "__annotations__")) (Value.str (Str.ofString "__annotations__") 170) (Value.ref 6), DictEntry.mk (PyData.keyHash P (Str.ofString "__builtins__")) (Value.str (Str.ofString "__builtins__") 171) (Value.ref 4), DictEntry.mk (PyData.keyHash P (Str.ofString "__file__")) (Value.str (Str.ofString "__file__") 173) (Value.str (Str.ofString "/claim/cut.py") 172), DictEntry.mk (PyData.keyHash P (Str.ofString "__cached__")) (Value.str (Str.ofString "__cached__") 174) Value.none, DictEntry.mk (PyData.keyHash P (Str.ofString "_wall")) (Value.str (Str.ofString "_wall") 193) (Value.ref 21), DictEntry.mk (PyData.keyHash P (Str.ofString "Whitespace")) (Value.str (Str.ofString "Whitespace") 295) (Value.ref 83), DictEntry.mk (PyData.keyHash P (Str.ofString "COMPILER_FLAG_NAMES")) (Value.str (Str.ofString "COMPILER_FLAG_NAMES") 328) (Value.ref 88), DictEntry.mk (PyData.keyHash P (Str.ofString "pretty_flags")) (Value.str (Str.ofString "pretty_flags") 338) (Value.ref 95), DictEntry.mk (PyData.keyHash P (Str.ofString "_iter_escaped_chars")) (Value.str (Str.ofString "_iter_escaped_chars") 350) (Value.ref 102), DictEntry.mk (PyData.keyHash P (Str.ofString "_strip_quoted_realnames")) (Value.str (Str.ofString "_strip_quoted_realnames") 362) (Value.ref 109), DictEntry.mk (PyData.keyHash P (Str.ofString "_check_parenthesis")) (Value.str (Str.ofString "_check_parenthesis") 372) (Value.ref 116), DictEntry.mk (PyData.keyHash P (Str.ofString "b1_set")) (Value.str (Str.ofString "b1_set") 434) (Value.ref 124)] 17) #[]
noncomputable def ob11_117 (P : Params) : Obj := Obj.mk (Value.type "list") none (Data.seq #[Value.int 173 375, Value.int 847 376, Value.int 6150 377, Value.int 6155 378, Value.int 6156 379, Value.int 6157 380, Value.int 8203 381, Value.int 8204 382, Value.int 8205 383, Value.int 8288 384, Value.int 65279 385]) #[]
noncomputable def ob11_118 (P : Params) : Obj := Obj.mk (Value.type "range") none (Data.fields #[Value.int 65024 386, Value.int 65040 387, Value.int 1 388]) #[]
noncomputable def ob11_119 (P : Params) : Obj := Obj.mk (Value.type "list") none (Data.seq #[Value.int 65024 391, Value.int 65025 392, Value.int 65026 393, Value.int 65027 394, Value.int 65028 395, Value.int 65029 396, Value.int 65030 397, Value.int 65031 398, Value.int 65032 399, Value.int 65033 400, Value.int 65034 401, Value.int 65035 402, Value.int 65036 403, Value.int 65037 404, Value.int 65038 405, Value.int 65039 406] 18) #[]
noncomputable def ob11_120 (P : Params) : Obj := Obj.mk (Value.type "range_iterator") none (Data.fields #[Value.int 65040 0, Value.int 0 0, Value.int 1 0]) #[]
noncomputable def ob11_121 (P : Params) : Obj := Obj.mk (Value.type "tuple") none (Data.seq #[]) #[]
noncomputable def ob11_122 (P : Params) : Obj := Obj.mk (Value.type "StopIteration") none (Data.fields #[Value.ref 121, Value.none, Value.none, Value.none, Value.bool Bool.false, Value.none]) #[]
noncomputable def ob11_123 (P : Params) : Obj := Obj.mk (Value.type "list") none (Data.seq #[Value.int 173 375, Value.int 847 376, Value.int 6150 377, Value.int 6155 378, Value.int 6156 379, Value.int 6157 380, Value.int 8203 381, Value.int 8204 382, Value.int 8205 383, Value.int 8288 384, Value.int 65279 385, Value.int 65024 391, Value.int 65025 392, Value.int 65026 393, Value.int 65027 394, Value.int 65028 395, Value.int 65029 396, Value.int 65030 397, Value.int 65031 398, Value.int 65032 399, Value.int 65033 400, Value.int 65034 401, Value.int 65035 402, Value.int 65036 403, Value.int 65037 404, Value.int 65038 405, Value.int 65039 406]) #[]
noncomputable def ob11_124 (P : Params) : Obj := Obj.mk (Value.type "set") none (Data.set #[(65024, Value.int 65024 391), (65025, Value.int 65025 392), (65026, Value.int 65026 393), (65027, Value.int 65027 394), (65028, Value.int 65028 395), (65029, Value.int 65029 396), (6150, Value.int 6150 377), (65030, Value.int 65030 397), (65031, Value.int 65031 398), (65032, Value.int 65032 399), (65033, Value.int 65033 400), (6155, Value.int 6155 378), (6156, Value.int 6156 379), (6157, Value.int 6157 380), (8203, Value.int 8203 381), (8204, Value.int 8204 382), (8205, Value.int 8205 383), (65034, Value.int 65034 401), (65035, Value.int 65035 402), (65036, Value.int 65036 403), (65037, Value.int 65037 404), (65038, Value.int 65038 405), (65039, Value.int 65039 406), (173, Value.int 173 375), (847, Value.int 847 376), (8288, Value.int 8288 384), (65279, Value.int 65279 385)] 29 (SetTable.mk 127 #[0, 1, 2, 3, 4, 5, 6, 7, 8, 9, 10, 11, 12, 13, 14, 15, 16, 17, 18, 19, 20, 21, 22, 45, 79, 96, 127] #[] 0 (!Params.followText P "set-order") 2 Bool.true)) #[]
noncomputable def ob11_125 (P : Params) : Obj := Obj.mk (Value.type "list_iterator") none (Data.fields #[Value.none, Value.int 27 0]) #[]
noncomputable def ob11_126 (P : Params) : Obj := Obj.mk (Value.type "tuple") none (Data.seq #[]) #[]
noncomputable def ob11_127 (P : Params) : Obj := Obj.mk (Value.type "StopIteration") none (Data.fields #[Value.ref 126, Value.none, Value.none, Value.none, Value.bool Bool.false, Value.none]) #[]
noncomputable def tree11 (P : Params) : BT := (.node (boot_o_0 P) (.node (boot_o_1 P) (.node (ob11_3 P) (.node (boot_o_7 P) (.node (ob1_15 P) (.node (ob2_31 P) (.node (ob2_63 P) (.node (ob11_127 P) .nil .nil) .nil) (.node (ob10_95 P) .nil .nil)) (.node (ob2_47 P) (.node (ob2_79 P) .nil .nil) (.node (ob10_111 P) .nil .nil))) (.node (ob2_23 P) (.node (ob2_39 P) (.node (ob2_71 P) .nil .nil) (.node (ob10_103 P) .nil .nil)) (.node (ob2_55 P) (.node (ob2_87 P) .nil .nil) (.node (ob11_119 P) .nil .nil)))) (.node (ob100_11 P) (.node (ob1_19 P) (.node (ob2_35 P) (.node (ob2_67 P) .nil .nil) (.node (ob10_99 P) .nil .nil)) (.node (ob2_51 P) (.node (ob2_83 P) .nil .nil) (.node (ob10_115 P) .nil .nil))) (.node (ob2_27 P) (.node (ob2_43 P) (.node (ob2_75 P) .nil .nil) (.node (ob10_107 P) .nil .nil)) (.node (ob2_59 P) (.node (ob10_91 P) .nil .nil) (.node (ob11_123 P) .nil .nil))))) (.node (boot_o_5 P) (.node (boot_o_9 P) (.node (ob1_17 P) (.node (ob2_33 P) (.node (ob2_65 P) .nil .nil) (.node (ob10_97 P) .nil .nil)) (.node (ob2_49 P) (.node (ob2_81 P) .nil .nil) (.node (ob10_113 P) .nil .nil))) (.node (ob2_25 P) (.node (ob2_41 P) (.node (ob2_73 P) .nil .nil) (.node (ob10_105 P) .nil .nil)) (.node (ob2_57 P) (.node (ob10_89 P) .nil .nil) (.node (ob11_121 P) .nil .nil)))) (.node (ob100_13 P) (.node (ob1_21 P) (.node (ob2_37 P) (.node (ob2_69 P) .nil .nil) (.node (ob10_101 P) .nil .nil)) (.node (ob2_53 P) (.node (ob2_85 P) .nil .nil) (.node (ob11_117 P) .nil .nil))) (.node (ob2_29 P) (.node (ob2_45 P) (.node (ob2_77 P) .nil .nil) (.node (ob10_109 P) .nil .nil)) (.node (ob2_61 P) (.node (ob10_93 P) .nil .nil) (.node (ob11_125 P) .nil .nil)))))) (.node (boot_o_2 P) (.node (boot_o_4 P) (.node (boot_o_8 P) (.node (ob1_16 P) (.node (ob2_32 P) (.node (ob2_64 P) .nil .nil) (.node (ob10_96 P) .nil .nil)) (.node (ob2_48 P) (.node (ob2_80 P) .nil .nil) (.node (ob10_112 P) .nil .nil))) (.node (ob2_24 P) (.node (ob2_40 P) (.node (ob2_72 P) .nil .nil) (.node (ob10_104 P) .nil .nil)) (.node (ob2_56 P) (.node (ob10_88 P) .nil .nil) (.node (ob11_120 P) .nil .nil)))) (.node (ob10_12 P) (.node (ob1_20 P) (.node (ob2_36 P) (.node (ob2_68 P) .nil .nil) (.node (ob10_100 P) .nil .nil)) (.node (ob2_52 P) (.node (ob2_84 P) .nil .nil) (.node (ob10_116 P) .nil .nil))) (.node (ob2_28 P) (.node (ob2_44 P) (.node (ob2_76 P) .nil .nil) (.node (ob10_108 P) .nil .nil)) (.node (ob2_60 P) (.node (ob10_92 P) .nil .nil) (.node (ob11_124 P) .nil .nil))))) (.node (boot_o_6 P) (.node (boot_o_10 P) (.node (ob1_18 P) (.node (ob2_34 P) (.node (ob2_66 P) .nil .nil) (.node (ob10_98 P) .nil .nil)) (.node (ob2_50 P) (.node (ob2_82 P) .nil .nil) (.node (ob10_114 P) .nil .nil))) (.node (ob2_26 P) (.node (ob2_42 P) (.node (ob2_74 P) .nil .nil) (.node (ob10_106 P) .nil .nil)) (.node (ob2_58 P) (.node (ob10_90 P) .nil .nil) (.node (ob11_122 P) .nil .nil)))) (.node (ob100_14 P) (.node (ob2_22 P) (.node (ob2_38 P) (.node (ob2_70 P) .nil .nil) (.node (ob10_102 P) .nil .nil)) (.node (ob2_54 P) (.node (ob2_86 P) .nil .nil) (.node (ob11_118 P) .nil .nil))) (.node (ob2_30 P) (.node (ob2_46 P) (.node (ob2_78 P) .nil .nil) (.node (ob10_110 P) .nil .nil)) (.node (ob2_62 P) (.node (ob10_94 P) .nil .nil) (.node (ob11_126 P) .nil .nil)))))))
noncomputable def st11 (w : World) (os : OsState) : SharedT := ⟨tree11 w.params, 128, {}, ⟨[]⟩, {}, 435, os⟩
noncomputable def ob12_3 (P : Params) : Obj := Obj.mk (Value.type "dict") none (Data.dict #[DictEntry.mk (PyData.keyHash P (Str.ofString "__name__")) (Value.str (Str.ofString "__name__") 165) (Value.str (Str.ofString "cpy313.stringprep") 373), DictEntry.mk (PyData.keyHash P (Str.ofString "__doc__")) (Value.str (Str.ofString "__doc__") 166) Value.none, DictEntry.mk (PyData.keyHash P (Str.ofString "__package__")) (Value.str (Str.ofString "__package__") 167) Value.none, DictEntry.mk (PyData.keyHash P (Str.ofString "__loader__")) (Value.str (Str.ofString "__loader__") 168) (Value.builtin "__main__.__loader__#opaque"), DictEntry.mk (PyData.keyHash P (Str.ofString "__spec__")) (Value.str (Str.ofString "__spec__") 169) Value.none, DictEntry.mk (PyData.keyHash P (Str.ofString "__annotations__")) (Value.str (Str.ofString "__annotations__") 170) (Value.ref 6), DictEntry.mk (PyData.keyHash P (Str.ofString "__builtins__")) (Value.str (Str.ofString "__builtins__") 171) (Value.ref 4), DictEntry.mk (PyData.keyHash P (Str.ofString "__file__")) (Value.str (Str.ofString "__file__") 173) (Value.str (Str.ofString "/claim/cut.py") 172), DictEntry.mk (PyData.keyHash P (Str.ofString "__cached__")) (Value.str (Str.ofString "__cached__") 174) Value.none, DictEntry.mk (PyData.keyHash P (Str.ofString "_wall")) (Value.str (Str.ofString "_wall") 193) (Value.ref 21), DictEntry.mk (PyData.keyHash P (Str.ofString "Whitespace")) (Value.str (Str.ofString "Whitespace") 295) (Value.ref 83), DictEntry.mk (PyData.keyHash P (Str.ofString "COMPILER_FLAG_NAMES")) (Value.str (Str.ofString "COMPILER_FLAG_NAMES") 328) (Value.ref 88), DictEntry.mk (PyData.keyHash P (Str.ofString "pretty_flags")) (Value.str (Str.ofString "pretty_flags") 338) (Value.ref 95), DictEntry.mk (PyData.keyHash P (Str.ofString "_iter_escaped_chars")) (Value.str (Str.ofString "_iter_escaped_chars") 350) (Value.ref 102), DictEntry.mk (PyData.keyHash P (Str.ofString "_strip_quoted_realnames")) (Value.str (Str.ofString "_strip_quoted_realnames") 362) (Value.ref 109), DictEntry.mk (PyData.keyHash P (Str.ofString "_check_parenthesis")) (Value.str (Str.ofString "_check_parenthesis") 372) (Value.ref 116), DictEntry.mk (PyData.keyHash P (Str.ofString "b1_set")) (Value.str (Str.ofString "b1_set") 434) (Value.ref 124), DictEntry.mk (PyData.keyHash P (Str.ofString "in_table_b1")) (Value.str (Str.ofString "in_table_b1") 441) (Value.ref 134)] 18) #[]
noncomputable def ob12_12 (P : Params) : Obj := Obj.mk Value.none none (Data.fields #[Value.int 1 0, Value.int 0 0, Value.ref 20, Value.int 5 0, Value.int 0 0, Value.ref 27, Value.int 63 0, Value.int 0 0, Value.ref 94, Value.int 76 0, Value.int 0 0, Value.ref 101, Value.int 89 0, Value.int 0 0, Value.ref 108, Value.int 107 0, Value.int 0 0, Value.ref 115, Value.int 120 0, Value.int 0 0, Value.ref 133]) #[]
noncomputable def ob12_128 (P : Params) : Obj := Obj.mk (Value.type "tuple") none (Data.seq #[]) #[]
noncomputable def ob12_129 (P : Params) : Obj := Obj.mk Value.none none (Data.fields #[]) #[]
noncomputable def ob12_130 (P : Params) : Obj := Obj.mk (Value.type "tuple") none (Data.seq #[Value.str (Str.ofString "code") 438]) #[]
noncomputable def ob12_131 (P : Params) : Obj := Obj.mk (Value.type "tuple") none (Data.seq #[]) #[]
noncomputable def ob12_132 (P : Params) : Obj := Obj.mk Value.none none (Data.func (FuncData.mk (Str.ofString "in_table_b1") (Str.ofString "in_table_b1") (fnArgs (stm 12)) (FuncBody.stmts (fnBody (stm 12))) (fnScope (stm 12)) 0 [] Value.none Value.none Value.none Value.none none Value.none Value.none 0)) #[]
noncomputable def ob12_133 (P : Params) : Obj := Obj.mk (Value.type "code") none (Data.fields #[Value.str (Str.ofString "in_table_b1") 435, Value.str (Str.ofString "in_table_b1") 436, Value.str (Str.ofString "/claim/cut.py") 437, Value.int 120 0, Value.int 1 0, Value.int 0 0, Value.int 0 0, Value.int 3 0, Value.ref 128, Value.bool Bool.true, Value.int 181 0, Value.ref 129, Value.none, Value.ref 130, Value.ref 131, Value.ref 132, Value.int 439 0, Value.int 120 0, Value.str (Str.ofString "/claim/cut.py") 440]) #[]
noncomputable def ob12_134 (P : Params) : Obj := Obj.mk (Value.type "function") none (Data.func (FuncData.mk (Str.ofString "in_table_b1") (Str.ofString "in_table_b1") (fnArgs (stm 12)) (FuncBody.stmts (fnBody (stm 12))) (fnScope (stm 12)) 3 [] Value.none Value.none Value.none (Value.str (Str.ofString "cpy313.stringprep") 373) none (Value.ref 133) Value.none 0)) #[]
noncomputable def tree12 (P : Params) : BT := (.node (boot_o_0 P) (.node (boot_o_1 P) (.node (ob12_3 P) (.node (boot_o_7 P) (.node (ob1_15 P) (.node (ob2_31 P) (.node (ob2_63 P) (.node (ob11_127 P) .nil .nil) .nil) (.node (ob10_95 P) .nil .nil)) (.node (ob2_47 P) (.node (ob2_79 P) .nil .nil) (.node (ob10_111 P) .nil .nil))) (.node (ob2_23 P) (.node (ob2_39 P) (.node (ob2_71 P) .nil .nil) (.node (ob10_103 P) .nil .nil)) (.node (ob2_55 P) (.node (ob2_87 P) .nil .nil) (.node (ob11_119 P) .nil .nil)))) (.node (ob100_11 P) (.node (ob1_19 P) (.node (ob2_35 P) (.node (ob2_67 P) (.node (ob12_131 P) .nil .nil) .nil) (.node (ob10_99 P) .nil .nil)) (.node (ob2_51 P) (.node (ob2_83 P) .nil .nil) (.node (ob10_115 P) .nil .nil))) (.node (ob2_27 P) (.node (ob2_43 P) (.node (ob2_75 P) .nil .nil) (.node (ob10_107 P) .nil .nil)) (.node (ob2_59 P) (.node (ob10_91 P) .nil .nil) (.node (ob11_123 P) .nil .nil))))) (.node (boot_o_5 P) (.node (boot_o_9 P) (.node (ob1_17 P) (.node (ob2_33 P) (.node (ob2_65 P) (.node (ob12_129 P) .nil .nil) .nil) (.node (ob10_97 P) .nil .nil)) (.node (ob2_49 P) (.node (ob2_81 P) .nil .nil) (.node (ob10_113 P) .nil .nil))) (.node (ob2_25 P) (.node (ob2_41 P) (.node (ob2_73 P) .nil .nil) (.node (ob10_105 P) .nil .nil)) (.node (ob2_57 P) (.node (ob10_89 P) .nil .nil) (.node (ob11_121 P) .nil .nil)))) (.node (ob100_13 P) (.node (ob1_21 P) (.node (ob2_37 P) (.node (ob2_69 P) (.node (ob12_133 P) .nil .nil) .nil) (.node (ob10_101 P) .nil .nil)) (.node (ob2_53 P) (.node (ob2_85 P) .nil .nil) (.node (ob11_117 P) .nil .nil))) (.node (ob2_29 P) (.node (ob2_45 P) (.node (ob2_77 P) .nil .nil) (.node (ob10_109 P) .nil .nil)) (.node (ob2_61 P) (.node (ob10_93 P) .nil .nil) (.node (ob11_125 P) .nil .nil)))))) (.node (boot_o_2 P) (.node (boot_o_4 P) (.node (boot_o_8 P) (.node (ob1_16 P) (.node (ob2_32 P) (.node (ob2_64 P) (.node (ob12_128 P) .nil .nil) .nil) (.node (ob10_96 P) .nil .nil)) (.node (ob2_48 P) (.node (ob2_80 P) .nil .nil) (.node (ob10_112 P) .nil .nil))) (.node (ob2_24 P) (.node (ob2_40 P) (.node (ob2_72 P) .nil .nil) (.node (ob10_104 P) .nil .nil)) (.node (ob2_56 P) (.node (ob10_88 P) .nil .nil) (.node (ob11_120 P) .nil .nil)))) (.node (ob12_12 P) (.node (ob1_20 P) (.node (ob2_36 P) (.node (ob2_68 P) (.node (ob12_132 P) .nil .nil) .nil) (.node (ob10_100 P) .nil .nil)) (.node (ob2_52 P) (.node (ob2_84 P) .nil .nil) (.node (ob10_116 P) .nil .nil))) (.node (ob2_28 P) (.node (ob2_44 P) (.node (ob2_76 P) .nil .nil) (.node (ob10_108 P) .nil .nil)) (.node (ob2_60 P) (.node (ob10_92 P) .nil .nil) (.node (ob11_124 P) .nil .nil))))) (.node (boot_o_6 P) (.node (boot_o_10 P) (.node (ob1_18 P) (.node (ob2_34 P) (.node (ob2_66 P) (.node (ob12_130 P) .nil .nil) .nil) (.node (ob10_98 P) .nil .nil)) (.node (ob2_50 P) (.node (ob2_82 P) .nil .nil) (.node (ob10_114 P) .nil .nil))) (.node (ob2_26 P) (.node (ob2_42 P) (.node (ob2_74 P) .nil .nil) (.node (ob10_106 P) .nil .nil)) (.node (ob2_58 P) (.node (ob10_90 P) .nil .nil) (.node (ob11_122 P) .nil .nil)))) (.node (ob100_14 P) (.node (ob2_22 P) (.node (ob2_38 P) (.node (ob2_70 P) (.node (ob12_134 P) .nil .nil) .nil) (.node (ob10_102 P) .nil .nil)) (.node (ob2_54 P) (.node (ob2_86 P) .nil .nil) (.node (ob11_118 P) .nil .nil))) (.node (ob2_30 P) (.node (ob2_46 P) (.node (ob2_78 P) .nil .nil) (.node (ob10_110 P) .nil .nil)) (.node (ob2_62 P) (.node (ob10_94 P) .nil .nil) (.node (ob11_126 P) .nil .nil)))))))
noncomputable def st12 (w : World) (os : OsState) : SharedT := ⟨tree12 w.params, 135, {}, ⟨[]⟩, {}, 442, os⟩
noncomputable def ob13_3 (P : Params) : Obj := Obj.mk (Value.type "dict") none (Data.dict #[DictEntry.mk (PyData.keyHash P (Str.ofString "__name__")) (Value.str (Str.ofString "__name__") 165) (Value.str (Str.ofString "cpy313.stringprep") 373), DictEntry.mk (PyData.keyHash P (Str.ofString "__doc__")) (Value.str (Str.ofString "__doc__") 166) Value.none, DictEntry.mk (PyData.keyHash P (Str.ofString "__package__")) (Value.str (Str.ofString "__package__") 167) Value.none, DictEntry.mk (PyData.keyHash P (Str.ofString "__loader__")) (Value.str (Str.ofString "__loader__") 168) (Value.builtin "__main__.__loader__#opaque"), DictEntry.mk (PyData.keyHash P (Str.ofString "__spec__")) (Value.str (Str.ofString "__spec__") 169) Value.none, DictEntry.mk (PyData.keyHash P (Str.ofString "__annotations__")) (Value.str (Str.ofString "__annotations__") 170) (Value.ref 6), DictEntry.mk (PyData.keyHash P (Str.ofString "__builtins__")) (Value.str (Str.ofString "__builtins__") 171) (Value.ref 4), DictEntry.mk (PyData.keyHash P (Str.ofString "__file__")) (Value.str (Str.ofString "__file__") 173) (Value.str (Str.ofString "/claim/cut.py") 172), DictEntry.mk (PyData.keyHash P (Str.ofString "__cached__")) (Value.str (Str.ofString "__cached__") 174) Value.none, DictEntry.mk (PyData.keyHash P (Str.ofString "_wall")) (Value.str (Str.ofString "_wall") 193) (Value.ref 21), DictEntry.mk (PyData.keyHash P (Str.ofString "Whitespace")) (Value.str (Str.ofString "Whitespace") 295) (Value.ref 83), DictEntry.mk (PyData.keyHash P (Str.ofString "COMPILER_FLAG_NAMES")) (Value.str (Str.ofString "COMPILER_FLAG_NAMES") 328) (Value.ref 88), DictEntry.mk (PyData.keyHash P (Str.ofString "pretty_flags")) (Value.str (Str.ofString "pretty_flags") 338) (Value.ref 95), DictEntry.mk (PyData.keyHash P (Str.ofString "_iter_escaped_chars")) (Value.str (Str.ofString "_iter_escaped_chars") 350) (Value.ref 102), DictEntry.mk (PyData.keyHash P (Str.ofString "_strip_quoted_realnames")) (Value.str (Str.ofString "_strip_quoted_realnames") 362) (Value.ref 109), DictEntry.mk (PyData.keyHash P (Str.ofString "_check_parenthesis")) (Value.str (Str.ofString "_check_parenthesis") 372) (Value.ref 116), DictEntry.mk (PyData.keyHash P (Str.ofString "b1_set")) (Value.str (Str.ofString "b1_set") 434) (Value.ref 124), DictEntry.mk (PyData.keyHash P (Str.ofString "in_table_b1")) (Value.str (Str.ofString "in_table_b1") 441) (Value.ref 134), DictEntry.mk (PyData.keyHash P (Str.ofString "b3_exceptions")) (Value.str (Str.ofString "b3_exceptions") 2392) (Value.ref 135)] 19) #[]
noncomputable def ob13_135 (P : Params) : Obj := { cls := .type "dict", data := .dict b3All.toArray 650 }
noncomputable def ob13_136 (P : Params) : Obj := { cls := .type "dict", data := .dict (ent17 493 (b3Chunk 1)).toArray 17 }
noncomputable def ob13_137 (P : Params) : Obj := { cls := .type "dict", data := .dict (ent17 544 (b3Chunk 2)).toArray 17 }
noncomputable def ob13_138 (P : Params) : Obj := { cls := .type "dict", data := .dict (ent17 595 (b3Chunk 3)).toArray 17 }
noncomputable def ob13_139 (P : Params) : Obj := { cls := .type "dict", data := .dict (ent17 646 (b3Chunk 4)).toArray 17 }
noncomputable def ob13_140 (P : Params) : Obj := { cls := .type "dict", data := .dict (ent17 697 (b3Chunk 5)).toArray 17 }
noncomputable def ob13_141 (P : Params) : Obj := { cls := .type "dict", data := .dict (ent17 748 (b3Chunk 6)).toArray 17 }
noncomputable def ob13_142 (P : Params) : Obj := { cls := .type "dict", data := .dict (ent17 799 (b3Chunk 7)).toArray 17 }
noncomputable def ob13_143 (P : Params) : Obj := { cls := .type "dict", data := .dict (ent17 850 (b3Chunk 8)).toArray 17 }
noncomputable def ob13_144 (P : Params) : Obj := { cls := .type "dict", data := .dict (ent17 901 (b3Chunk 9)).toArray 17 }
noncomputable def ob13_145 (P : Params) : Obj := { cls := .type "dict", data := .dict (ent17 952 (b3Chunk 10)).toArray 17 }
noncomputable def ob13_146 (P : Params) : Obj := { cls := .type "dict", data := .dict (ent17 1003 (b3Chunk 11)).toArray 17 }
noncomputable def ob13_147 (P : Params) : Obj := { cls := .type "dict", data := .dict (ent17 1054 (b3Chunk 12)).toArray 17 }
noncomputable def ob13_148 (P : Params) : Obj := { cls := .type "dict", data := .dict (ent17 1105 (b3Chunk 13)).toArray 17 }
noncomputable def ob13_149 (P : Params) : Obj := { cls := .type "dict", data := .dict (ent17 1156 (b3Chunk 14)).toArray 17 }
noncomputable def ob13_150 (P : Params) : Obj := { cls := .type "dict", data := .dict (ent17 1207 (b3Chunk 15)).toArray 17 }
noncomputable def ob13_151 (P : Params) : Obj := { cls := .type "dict", data := .dict (ent17 1258 (b3Chunk 16)).toArray 17 }
noncomputable def ob13_152 (P : Params) : Obj := { cls := .type "dict", data := .dict (ent17 1309 (b3Chunk 17)).toArray 17 }
noncomputable def ob13_153 (P : Params) : Obj := { cls := .type "dict", data := .dict (ent17 1360 (b3Chunk 18)).toArray 17 }
noncomputable def ob13_154 (P : Params) : Obj := { cls := .type "dict", data := .dict (ent17 1411 (b3Chunk 19)).toArray 17 }
noncomputable def ob13_155 (P : Params) : Obj := { cls := .type "dict", data := .dict (ent17 1462 (b3Chunk 20)).toArray 17 }
noncomputable def ob13_156 (P : Params) : Obj := { cls := .type "dict", data := .dict (ent17 1513 (b3Chunk 21)).toArray 17 }
noncomputable def ob13_157 (P : Params) : Obj := { cls := .type "dict", data := .dict (ent17 1564 (b3Chunk 22)).toArray 17 }
noncomputable def ob13_158 (P : Params) : Obj := { cls := .type "dict", data := .dict (ent17 1615 (b3Chunk 23)).toArray 17 }
noncomputable def ob13_159 (P : Params) : Obj := { cls := .type "dict", data := .dict (ent17 1666 (b3Chunk 24)).toArray 17 }
noncomputable def ob13_160 (P : Params) : Obj := { cls := .type "dict", data := .dict (ent17 1717 (b3Chunk 25)).toArray 17 }
noncomputable def ob13_161 (P : Params) : Obj := { cls := .type "dict", data := .dict (ent17 1768 (b3Chunk 26)).toArray 17 }
noncomputable def ob13_162 (P : Params) : Obj := { cls := .type "dict", data := .dict (ent17 1819 (b3Chunk 27)).toArray 17 }
noncomputable def ob13_163 (P : Params) : Obj := { cls := .type "dict", data := .dict (ent17 1870 (b3Chunk 28)).toArray 17 }
noncomputable def ob13_164 (P : Params) : Obj := { cls := .type "dict", data := .dict (ent17 1921 (b3Chunk 29)).toArray 17 }
noncomputable def ob13_165 (P : Params) : Obj := { cls := .type "dict", data := .dict (ent17 1972 (b3Chunk 30)).toArray 17 }
noncomputable def ob13_166 (P : Params) : Obj := { cls := .type "dict", data := .dict (ent17 2023 (b3Chunk 31)).toArray 17 }
noncomputable def ob13_167 (P : Params) : Obj := { cls := .type "dict", data := .dict (ent17 2074 (b3Chunk 32)).toArray 17 }
noncomputable def ob13_168 (P : Params) : Obj := { cls := .type "dict", data := .dict (ent17 2125 (b3Chunk 33)).toArray 17 }
noncomputable def ob13_169 (P : Params) : Obj := { cls := .type "dict", data := .dict (ent17 2176 (b3Chunk 34)).toArray 17 }
noncomputable def ob13_170 (P : Params) : Obj := { cls := .type "dict", data := .dict (ent17 2227 (b3Chunk 35)).toArray 17 }
noncomputable def ob13_171 (P : Params) : Obj := { cls := .type "dict", data := .dict (ent17 2278 (b3Chunk 36)).toArray 17 }
noncomputable def ob13_172 (P : Params) : Obj := { cls := .type "dict", data := .dict (ent17 2329 (b3Chunk 37)).toArray 17 }
noncomputable def ob13_173 (P : Params) : Obj := { cls := .type "dict", data := .dict (ent4 2380 b3Tl).toArray 4 }
noncomputable def tree13 (P : Params) : BT := (.node (boot_o_0 P) (.node (boot_o_1 P) (.node (ob13_3 P) (.node (boot_o_7 P) (.node (ob1_15 P) (.node (ob2_31 P) (.node (ob2_63 P) (.node (ob11_127 P) .nil .nil) .nil) (.node (ob10_95 P) (.node (ob13_159 P) .nil .nil) .nil)) (.node (ob2_47 P) (.node (ob2_79 P) (.node (ob13_143 P) .nil .nil) .nil) (.node (ob10_111 P) .nil .nil))) (.node (ob2_23 P) (.node (ob2_39 P) (.node (ob2_71 P) (.node (ob13_135 P) .nil .nil) .nil) (.node (ob10_103 P) (.node (ob13_167 P) .nil .nil) .nil)) (.node (ob2_55 P) (.node (ob2_87 P) (.node (ob13_151 P) .nil .nil) .nil) (.node (ob11_119 P) .nil .nil)))) (.node (ob100_11 P) (.node (ob1_19 P) (.node (ob2_35 P) (.node (ob2_67 P) (.node (ob12_131 P) .nil .nil) .nil) (.node (ob10_99 P) (.node (ob13_163 P) .nil .nil) .nil)) (.node (ob2_51 P) (.node (ob2_83 P) (.node (ob13_147 P) .nil .nil) .nil) (.node (ob10_115 P) .nil .nil))) (.node (ob2_27 P) (.node (ob2_43 P) (.node (ob2_75 P) (.node (ob13_139 P) .nil .nil) .nil) (.node (ob10_107 P) (.node (ob13_171 P) .nil .nil) .nil)) (.node (ob2_59 P) (.node (ob10_91 P) (.node (ob13_155 P) .nil .nil) .nil) (.node (ob11_123 P) .nil .nil))))) (.node (boot_o_5 P) (.node (boot_o_9 P) (.node (ob1_17 P) (.node (ob2_33 P) (.node (ob2_65 P) (.node (ob12_129 P) .nil .nil) .nil) (.node (ob10_97 P) (.node (ob13_161 P) .nil .nil) .nil)) (.node (ob2_49 P) (.node (ob2_81 P) (.node (ob13_145 P) .nil .nil) .nil) (.node (ob10_113 P) .nil .nil))) (.node (ob2_25 P) (.node (ob2_41 P) (.node (ob2_73 P) (.node (ob13_137 P) .nil .nil) .nil) (.node (ob10_105 P) (.node (ob13_169 P) .nil .nil) .nil)) (.node (ob2_57 P) (.node (ob10_89 P) (.node (ob13_153 P) .nil .nil) .nil) (.node (ob11_121 P) .nil .nil)))) (.node (ob100_13 P) (.node (ob1_21 P) (.node (ob2_37 P) (.node (ob2_69 P) (.node (ob12_133 P) .nil .nil) .nil) (.node (ob10_101 P) (.node (ob13_165 P) .nil .nil) .nil)) (.node (ob2_53 P) (.node (ob2_85 P) (.node (ob13_149 P) .nil .nil) .nil) (.node (ob11_117 P) .nil .nil))) (.node (ob2_29 P) (.node (ob2_45 P) (.node (ob2_77 P) (.node (ob13_141 P) .nil .nil) .nil) (.node (ob10_109 P) (.node (ob13_173 P) .nil .nil) .nil)) (.node (ob2_61 P) (.node (ob10_93 P) (.node (ob13_157 P) .nil .nil) .nil) (.node (ob11_125 P) .nil .nil)))))) (.node (boot_o_2 P) (.node (boot_o_4 P) (.node (boot_o_8 P) (.node (ob1_16 P) (.node (ob2_32 P) (.node (ob2_64 P) (.node (ob12_128 P) .nil .nil) .nil) (.node (ob10_96 P) (.node (ob13_160 P) .nil .nil) .nil)) (.node (ob2_48 P) (.node (ob2_80 P) (.node (ob13_144 P) .nil .nil) .nil) (.node (ob10_112 P) .nil .nil))) (.node (ob2_24 P) (.node (ob2_40 P) (.node (ob2_72 P) (.node (ob13_136 P) .nil .nil) .nil) (.node (ob10_104 P) (.node (ob13_168 P) .nil .nil) .nil)) (.node (ob2_56 P) (.node (ob10_88 P) (.node (ob13_152 P) .nil .nil) .nil) (.node (ob11_120 P) .nil .nil)))) (.node (ob12_12 P) (.node (ob1_20 P) (.node (ob2_36 P) (.node (ob2_68 P) (.node (ob12_132 P) .nil .nil) .nil) (.node (ob10_100 P) (.node (ob13_164 P) .nil .nil) .nil)) (.node (ob2_52 P) (.node (ob2_84 P) (.node (ob13_148 P) .nil .nil) .nil) (.node (ob10_116 P) .nil .nil))) (.node (ob2_28 P) (.node (ob2_44 P) (.node (ob2_76 P) (.node (ob13_140 P) .nil .nil) .nil) (.node (ob10_108 P) (.node (ob13_172 P) .nil .nil) .nil)) (.node (ob2_60 P) (.node (ob10_92 P) (.node (ob13_156 P) .nil .nil) .nil) (.node (ob11_124 P) .nil .nil))))) (.node (boot_o_6 P) (.node (boot_o_10 P) (.node (ob1_18 P) (.node (ob2_34 P) (.node (ob2_66 P) (.node (ob12_130 P) .nil .nil) .nil) (.node (ob10_98 P) (.node (ob13_162 P) .nil .nil) .nil)) (.node (ob2_50 P) (.node (ob2_82 P) (.node (ob13_146 P) .nil .nil) .nil) (.node (ob10_114 P) .nil .nil))) (.node (ob2_26 P) (.node (ob2_42 P) (.node (ob2_74 P) (.node (ob13_138 P) .nil .nil) .nil) (.node (ob10_106 P) (.node (ob13_170 P) .nil .nil) .nil)) (.node (ob2_58 P) (.node (ob10_90 P) (.node (ob13_154 P) .nil .nil) .nil) (.node (ob11_122 P) .nil .nil)))) (.node (ob100_14 P) (.node (ob2_22 P) (.node (ob2_38 P) (.node (ob2_70 P) (.node (ob12_134 P) .nil .nil) .nil) (.node (ob10_102 P) (.node (ob13_166 P) .nil .nil) .nil)) (.node (ob2_54 P) (.node (ob2_86 P) (.node (ob13_150 P) .nil .nil) .nil) (.node (ob11_118 P) .nil .nil))) (.node (ob2_30 P) (.node (ob2_46 P) (.node (ob2_78 P) (.node (ob13_142 P) .nil .nil) .nil) (.node (ob10_110 P) .nil .nil)) (.node (ob2_62 P) (.node (ob10_94 P) (.node (ob13_158 P) .nil .nil) .nil) (.node (ob11_126 P) .nil .nil)))))))
noncomputable def st13 (w : World) (os : OsState) : SharedT := ⟨tree13 w.params, 174, {}, ⟨[]⟩, {}, 2393, os⟩
noncomputable def tree13a (P : Params) : BT := (.node (boot_o_0 P) (.node (boot_o_1 P) (.node (ob12_3 P) (.node (boot_o_7 P) (.node (ob1_15 P) (.node (ob2_31 P) (.node (ob2_63 P) (.node (ob11_127 P) .nil .nil) .nil) (.node (ob10_95 P) (.node (ob13_159 P) .nil .nil) .nil)) (.node (ob2_47 P) (.node (ob2_79 P) (.node (ob13_143 P) .nil .nil) .nil) (.node (ob10_111 P) .nil .nil))) (.node (ob2_23 P) (.node (ob2_39 P) (.node (ob2_71 P) (.node (ob13_135 P) .nil .nil) .nil) (.node (ob10_103 P) (.node (ob13_167 P) .nil .nil) .nil)) (.node (ob2_55 P) (.node (ob2_87 P) (.node (ob13_151 P) .nil .nil) .nil) (.node (ob11_119 P) .nil .nil)))) (.node (ob100_11 P) (.node (ob1_19 P) (.node (ob2_35 P) (.node (ob2_67 P) (.node (ob12_131 P) .nil .nil) .nil) (.node (ob10_99 P) (.node (ob13_163 P) .nil .nil) .nil)) (.node (ob2_51 P) (.node (ob2_83 P) (.node (ob13_147 P) .nil .nil) .nil) (.node (ob10_115 P) .nil .nil))) (.node (ob2_27 P) (.node (ob2_43 P) (.node (ob2_75 P) (.node (ob13_139 P) .nil .nil) .nil) (.node (ob10_107 P) (.node (ob13_171 P) .nil .nil) .nil)) (.node (ob2_59 P) (.node (ob10_91 P) (.node (ob13_155 P) .nil .nil) .nil) (.node (ob11_123 P) .nil .nil))))) (.node (boot_o_5 P) (.node (boot_o_9 P) (.node (ob1_17 P) (.node (ob2_33 P) (.node (ob2_65 P) (.node (ob12_129 P) .nil .nil) .nil) (.node (ob10_97 P) (.node (ob13_161 P) .nil .nil) .nil)) (.node (ob2_49 P) (.node (ob2_81 P) (.node (ob13_145 P) .nil .nil) .nil) (.node (ob10_113 P) .nil .nil))) (.node (ob2_25 P) (.node (ob2_41 P) (.node (ob2_73 P) (.node (ob13_137 P) .nil .nil) .nil) (.node (ob10_105 P) (.node (ob13_169 P) .nil .nil) .nil)) (.node (ob2_57 P) (.node (ob10_89 P) (.node (ob13_153 P) .nil .nil) .nil) (.node (ob11_121 P) .nil .nil)))) (.node (ob100_13 P) (.node (ob1_21 P) (.node (ob2_37 P) (.node (ob2_69 P) (.node (ob12_133 P) .nil .nil) .nil) (.node (ob10_101 P) (.node (ob13_165 P) .nil .nil) .nil)) (.node (ob2_53 P) (.node (ob2_85 P) (.node (ob13_149 P) .nil .nil) .nil) (.node (ob11_117 P) .nil .nil))) (.node (ob2_29 P) (.node (ob2_45 P) (.node (ob2_77 P) (.node (ob13_141 P) .nil .nil) .nil) (.node (ob10_109 P) (.node (ob13_173 P) .nil .nil) .nil)) (.node (ob2_61 P) (.node (ob10_93 P) (.node (ob13_157 P) .nil .nil) .nil) (.node (ob11_125 P) .nil .nil)))))) (.node (boot_o_2 P) (.node (boot_o_4 P) (.node (boot_o_8 P) (.node (ob1_16 P) (.node (ob2_32 P) (.node (ob2_64 P) (.node (ob12_128 P) .nil .nil) .nil) (.node (ob10_96 P) (.node (ob13_160 P) .nil .nil) .nil)) (.node (ob2_48 P) (.node (ob2_80 P) (.node (ob13_144 P) .nil .nil) .nil) (.node (ob10_112 P) .nil .nil))) (.node (ob2_24 P) (.node (ob2_40 P) (.node (ob2_72 P) (.node (ob13_136 P) .nil .nil) .nil) (.node (ob10_104 P) (.node (ob13_168 P) .nil .nil) .nil)) (.node (ob2_56 P) (.node (ob10_88 P) (.node (ob13_152 P) .nil .nil) .nil) (.node (ob11_120 P) .nil .nil)))) (.node (ob12_12 P) (.node (ob1_20 P) (.node (ob2_36 P) (.node (ob2_68 P) (.node (ob12_132 P) .nil .nil) .nil) (.node (ob10_100 P) (.node (ob13_164 P) .nil .nil) .nil)) (.node (ob2_52 P) (.node (ob2_84 P) (.node (ob13_148 P) .nil .nil) .nil) (.node (ob10_116 P) .nil .nil))) (.node (ob2_28 P) (.node (ob2_44 P) (.node (ob2_76 P) (.node (ob13_140 P) .nil .nil) .nil) (.node (ob10_108 P) (.node (ob13_172 P) .nil .nil) .nil)) (.node (ob2_60 P) (.node (ob10_92 P) (.node (ob13_156 P) .nil .nil) .nil) (.node (ob11_124 P) .nil .nil))))) (.node (boot_o_6 P) (.node (boot_o_10 P) (.node (ob1_18 P) (.node (ob2_34 P) (.node (ob2_66 P) (.node (ob12_130 P) .nil .nil) .nil) (.node (ob10_98 P) (.node (ob13_162 P) .nil .nil) .nil)) (.node (ob2_50 P) (.node (ob2_82 P) (.node (ob13_146 P) .nil .nil) .nil) (.node (ob10_114 P) .nil .nil))) (.node (ob2_26 P) (.node (ob2_42 P) (.node (ob2_74 P) (.node (ob13_138 P) .nil .nil) .nil) (.node (ob10_106 P) (.node (ob13_170 P) .nil .nil) .nil)) (.node (ob2_58 P) (.node (ob10_90 P) (.node (ob13_154 P) .nil .nil) .nil) (.node (ob11_122 P) .nil .nil)))) (.node (ob100_14 P) (.node (ob2_22 P) (.node (ob2_38 P) (.node (ob2_70 P) (.node (ob12_134 P) .nil .nil) .nil) (.node (ob10_102 P) (.node (ob13_166 P) .nil .nil) .nil)) (.node (ob2_54 P) (.node (ob2_86 P) (.node (ob13_150 P) .nil .nil) .nil) (.node (ob11_118 P) .nil .nil))) (.node (ob2_30 P) (.node (ob2_46 P) (.node (ob2_78 P) (.node (ob13_142 P) .nil .nil) .nil) (.node (ob10_110 P) .nil .nil)) (.node (ob2_62 P) (.node (ob10_94 P) (.node (ob13_158 P) .nil .nil) .nil) (.node (ob11_126 P) .nil .nil)))))))
noncomputable def ob21_3 (P : Params) : Obj := Obj.mk (Value.type "dict") none (Data.dict #[DictEntry.mk (PyData.keyHash P (Str.ofString "__name__")) (Value.str (Str.ofString "__name__") 165) (Value.str (Str.ofString "law_sn0085_01") 2401), DictEntry.mk (PyData.keyHash P (Str.ofString "__doc__")) (Value.str (Str.ofString "__doc__") 166) Value.none, DictEntry.mk (PyData.keyHash P (Str.ofString "__package__")) (Value.str (Str.ofString "__package__") 167) Value.none, DictEntry.mk (PyData.keyHash P (Str.ofString "__loader__")) (Value.str (Str.ofString "__loader__") 168) (Value.builtin "__main__.__loader__#opaque"), DictEntry.mk (PyData.keyHash P (Str.ofString "__spec__")) (Value.str (Str.ofString "__spec__") 169) Value.none, DictEntry.mk (PyData.keyHash P (Str.ofString "__annotations__")) (Value.str (Str.ofString "__annotations__") 170) (Value.ref 6), DictEntry.mk (PyData.keyHash P (Str.ofString "__builtins__")) (Value.str (Str.ofString "__builtins__") 171) (Value.ref 4), DictEntry.mk (PyData.keyHash P (Str.ofString "__file__")) (Value.str (Str.ofString "__file__") 173) (Value.str (Str.ofString "/claim/cut.py") 172), DictEntry.mk (PyData.keyHash P (Str.ofString "__cached__")) (Value.str (Str.ofString "__cached__") 174) Value.none, DictEntry.mk (PyData.keyHash P (Str.ofString "_wall")) (Value.str (Str.ofString "_wall") 193) (Value.ref 21), DictEntry.mk (PyData.keyHash P (Str.ofString "Whitespace")) (Value.str (Str.ofString "Whitespace") 295) (Value.ref 83), DictEntry.mk (PyData.keyHash P (Str.ofString "COMPILER_FLAG_NAMES")) (Value.str (Str.ofString "COMPILER_FLAG_NAMES") 328) (Value.ref 88), DictEntry.mk (PyData.keyHash P (Str.ofString "pretty_flags")) (Value.str (Str.ofString "pretty_flags") 338) (Value.ref 95), DictEntry.mk (PyData.keyHash P (Str.ofString "_iter_escaped_chars")) (Value.str (Str.ofString "_iter_escaped_chars") 350) (Value.ref 102), DictEntry.mk (PyData.keyHash P (Str.ofString "_strip_quoted_realnames")) (Value.str (Str.ofString "_strip_quoted_realnames") 362) (Value.ref 109), DictEntry.mk (PyData.keyHash P (Str.ofString "_check_parenthesis")) (Value.str (Str.ofString "_check_parenthesis") 372) (Value.ref 116), DictEntry.mk (PyData.keyHash P (Str.ofString "b1_set")) (Value.str (Str.ofString "b1_set") 434) (Value.ref 124), DictEntry.mk (PyData.keyHash P (Str.ofString "in_table_b1")) (Value.str (Str.ofString "in_table_b1") 441) (Value.ref 134), DictEntry.mk (PyData.keyHash P (Str.ofString "b3_exceptions")) (Value.str (Str.ofString "b3_exceptions") 2392) (Value.ref 135), DictEntry.mk (PyData.keyHash P (Str.ofString "map_table_b3")) (Value.str (Str.ofString "map_table_b3") 2400) (Value.ref 180), DictEntry.mk (PyData.keyHash P (Str.ofString "_law_word")) (Value.str (Str.ofString "_law_word") 2410) (Value.ref 187), DictEntry.mk (PyData.keyHash P (Str.ofString "_law_spelled")) (Value.str (Str.ofString "_law_spelled") 2420) (Value.ref 194), DictEntry.mk (PyData.keyHash P (Str.ofString "_law_prepared")) (Value.str (Str.ofString "_law_prepared") 2427) (Value.ref 201), DictEntry.mk (PyData.keyHash P (Str.ofString "_law_ways")) (Value.str (Str.ofString "_law_ways") 2437) (Value.ref 208), DictEntry.mk (PyData.keyHash P (Str.ofString "_law_from_right")) (Value.str (Str.ofString "_law_from_right") 2447) (Value.ref 215), DictEntry.mk (PyData.keyHash P (Str.ofString "law")) (Value.str (Str.ofString "law") 2453) (Value.ref 220)] 26) #[]
noncomputable def ob21_12 (P : Params) : Obj := Obj.mk Value.none none (Data.fields #[Value.int 1 0, Value.int 0 0, Value.ref 20, Value.int 5 0, Value.int 0 0, Value.ref 27, Value.int 63 0, Value.int 0 0, Value.ref 94, Value.int 76 0, Value.int 0 0, Value.ref 101, Value.int 89 0, Value.int 0 0, Value.ref 108, Value.int 107 0, Value.int 0 0, Value.ref 115, Value.int 120 0, Value.int 0 0, Value.ref 133, Value.int 123 0, Value.int 0 0, Value.ref 179, Value.int 129 0, Value.int 0 0, Value.ref 186, Value.int 132 0, Value.int 0 0, Value.ref 193, Value.int 137 0, Value.int 0 0, Value.ref 200, Value.int 139 0, Value.int 0 0, Value.ref 207, Value.int 146 0, Value.int 0 0, Value.ref 214, Value.int 152 0, Value.int 0 0, Value.ref 219]) #[]
noncomputable def ob21_174 (P : Params) : Obj := Obj.mk (Value.type "tuple") none (Data.seq #[]) #[]
noncomputable def ob21_175 (P : Params) : Obj := Obj.mk Value.none none (Data.fields #[]) #[]
noncomputable def ob21_176 (P : Params) : Obj := Obj.mk (Value.type "tuple") none (Data.seq #[Value.str (Str.ofString "code") 2396, Value.str (Str.ofString "r") 2397]) #[]
noncomputable def ob21_177 (P : Params) : Obj := Obj.mk (Value.type "tuple") none (Data.seq #[]) #[]
noncomputable def ob21_178 (P : Params) : Obj := Obj.mk Value.none none (Data.func (FuncData.mk (Str.ofString "map_table_b3") (Str.ofString "map_table_b3") (fnArgs (stm 14)) (FuncBody.stmts (fnBody (stm 14))) (fnScope (stm 14)) 0 [] Value.none Value.none Value.none Value.none none Value.none Value.none 0)) #[]
noncomputable def ob21_179 (P : Params) : Obj := Obj.mk (Value.type "code") none (Data.fields #[Value.str (Str.ofString "map_table_b3") 2393, Value.str (Str.ofString "map_table_b3") 2394, Value.str (Str.ofString "/claim/cut.py") 2395, Value.int 123 0, Value.int 1 0, Value.int 0 0, Value.int 0 0, Value.int 3 0, Value.ref 174, Value.bool Bool.true, Value.int 181 0, Value.ref 175, Value.none, Value.ref 176, Value.ref 177, Value.ref 178, Value.int 2398 0, Value.int 123 0, Value.str (Str.ofString "/claim/cut.py") 2399]) #[]
noncomputable def ob21_180 (P : Params) : Obj := Obj.mk (Value.type "function") none (Data.func (FuncData.mk (Str.ofString "map_table_b3") (Str.ofString "map_table_b3") (fnArgs (stm 14)) (FuncBody.stmts (fnBody (stm 14))) (fnScope (stm 14)) 3 [] Value.none Value.none Value.none (Value.str (Str.ofString "cpy313.stringprep") 373) none (Value.ref 179) Value.none 0)) #[]
noncomputable def ob21_181 (P : Params) : Obj := Obj.mk (Value.type "tuple") none (Data.seq #[]) #[]
noncomputable def ob21_182 (P : Params) : Obj := Obj.mk Value.none none (Data.fields #[]) #[]
noncomputable def ob21_183 (P : Params) : Obj := Obj.mk (Value.type "tuple") none (Data.seq #[Value.str (Str.ofString "place") 2406, Value.str (Str.ofString "names") 2407]) #[]
noncomputable def ob21_184 (P : Params) : Obj := Obj.mk (Value.type "tuple") none (Data.seq #[]) #[]
noncomputable def ob21_185 (P : Params) : Obj := Obj.mk Value.none none (Data.func (FuncData.mk (Str.ofString "_law_word") (Str.ofString "_law_word") (fnArgs (stm 16)) (FuncBody.stmts (fnBody (stm 16))) (fnScope (stm 16)) 0 [] Value.none Value.none Value.none Value.none none Value.none Value.none 0)) #[]
noncomputable def ob21_186 (P : Params) : Obj := Obj.mk (Value.type "code") none (Data.fields #[Value.str (Str.ofString "_law_word") 2403, Value.str (Str.ofString "_law_word") 2404, Value.str (Str.ofString "/claim/cut.py") 2405, Value.int 129 0, Value.int 1 0, Value.int 0 0, Value.int 0 0, Value.int 3 0, Value.ref 181, Value.bool Bool.true, Value.int 181 0, Value.ref 182, Value.none, Value.ref 183, Value.ref 184, Value.ref 185, Value.int 2408 0, Value.int 129 0, Value.str (Str.ofString "/claim/cut.py") 2409]) #[]
noncomputable def ob21_187 (P : Params) : Obj := Obj.mk (Value.type "function") none (Data.func (FuncData.mk (Str.ofString "_law_word") (Str.ofString "_law_word") (fnArgs (stm 16)) (FuncBody.stmts (fnBody (stm 16))) (fnScope (stm 16)) 3 [] Value.none Value.none Value.none (Value.str (Str.ofString "law_sn0085_01") 2401) none (Value.ref 186) Value.none 0)) #[]
noncomputable def ob21_188 (P : Params) : Obj := Obj.mk (Value.type "tuple") none (Data.seq #[]) #[]
noncomputable def ob21_189 (P : Params) : Obj := Obj.mk Value.none none (Data.fields #[]) #[]
noncomputable def ob21_190 (P : Params) : Obj := Obj.mk (Value.type "tuple") none (Data.seq #[Value.str (Str.ofString "number") 2414, Value.str (Str.ofString "rows") 2415, Value.str (Str.ofString "row") 2416, Value.str (Str.ofString "pair") 2417]) #[]
noncomputable def ob21_191 (P : Params) : Obj := Obj.mk (Value.type "tuple") none (Data.seq #[]) #[]
noncomputable def ob21_192 (P : Params) : Obj := Obj.mk Value.none none (Data.func (FuncData.mk (Str.ofString "_law_spelled") (Str.ofString "_law_spelled") (fnArgs (stm 17)) (FuncBody.stmts (fnBody (stm 17))) (fnScope (stm 17)) 0 [] Value.none Value.none Value.none Value.none none Value.none Value.none 0)) #[]
noncomputable def ob21_193 (P : Params) : Obj := Obj.mk (Value.type "code") none (Data.fields #[Value.str (Str.ofString "_law_spelled") 2411, Value.str (Str.ofString "_law_spelled") 2412, Value.str (Str.ofString "/claim/cut.py") 2413, Value.int 132 0, Value.int 1 0, Value.int 0 0, Value.int 0 0, Value.int 3 0, Value.ref 188, Value.bool Bool.true, Value.int 181 0, Value.ref 189, Value.none, Value.ref 190, Value.ref 191, Value.ref 192, Value.int 2418 0, Value.int 132 0, Value.str (Str.ofString "/claim/cut.py") 2419]) #[]
noncomputable def ob21_194 (P : Params) : Obj := Obj.mk (Value.type "function") none (Data.func (FuncData.mk (Str.ofString "_law_spelled") (Str.ofString "_law_spelled") (fnArgs (stm 17)) (FuncBody.stmts (fnBody (stm 17))) (fnScope (stm 17)) 3 [] Value.none Value.none Value.none (Value.str (Str.ofString "law_sn0085_01") 2401) none (Value.ref 193) Value.none 0)) #[]
noncomputable def ob21_195 (P : Params) : Obj := Obj.mk (Value.type "tuple") none (Data.seq #[]) #[]
noncomputable def ob21_196 (P : Params) : Obj := Obj.mk Value.none none (Data.fields #[]) #[]
noncomputable def ob21_197 (P : Params) : Obj := Obj.mk (Value.type "tuple") none (Data.seq #[Value.str (Str.ofString "sign") 2424]) #[]
noncomputable def ob21_198 (P : Params) : Obj := Obj.mk (Value.type "tuple") none (Data.seq #[]) #[]
noncomputable def ob21_199 (P : Params) : Obj := Obj.mk Value.none none (Data.func (FuncData.mk (Str.ofString "_law_prepared") (Str.ofString "_law_prepared") (fnArgs (stm 18)) (FuncBody.stmts (fnBody (stm 18))) (fnScope (stm 18)) 0 [] Value.none Value.none Value.none Value.none none Value.none Value.none 0)) #[]
noncomputable def ob21_200 (P : Params) : Obj := Obj.mk (Value.type "code") none (Data.fields #[Value.str (Str.ofString "_law_prepared") 2421, Value.str (Str.ofString "_law_prepared") 2422, Value.str (Str.ofString "/claim/cut.py") 2423, Value.int 137 0, Value.int 1 0, Value.int 0 0, Value.int 0 0, Value.int 3 0, Value.ref 195, Value.bool Bool.true, Value.int 181 0, Value.ref 196, Value.none, Value.ref 197, Value.ref 198, Value.ref 199, Value.int 2425 0, Value.int 137 0, Value.str (Str.ofString "/claim/cut.py") 2426]) #[]
noncomputable def ob21_201 (P : Params) : Obj := Obj.mk (Value.type "function") none (Data.func (FuncData.mk (Str.ofString "_law_prepared") (Str.ofString "_law_prepared") (fnArgs (stm 18)) (FuncBody.stmts (fnBody (stm 18))) (fnScope (stm 18)) 3 [] Value.none Value.none Value.none (Value.str (Str.ofString "law_sn0085_01") 2401) none (Value.ref 200) Value.none 0)) #[]
noncomputable def ob21_202 (P : Params) : Obj := Obj.mk (Value.type "tuple") none (Data.seq #[]) #[]
noncomputable def ob21_203 (P : Params) : Obj := Obj.mk Value.none none (Data.fields #[]) #[]
noncomputable def ob21_204 (P : Params) : Obj := Obj.mk (Value.type "tuple") none (Data.seq #[Value.str (Str.ofString "counts") 2431, Value.str (Str.ofString "ways") 2432, Value.str (Str.ofString "pile") 2433, Value.str (Str.ofString "node") 2434]) #[]
noncomputable def ob21_205 (P : Params) : Obj := Obj.mk (Value.type "tuple") none (Data.seq #[]) #[]
noncomputable def ob21_206 (P : Params) : Obj := Obj.mk Value.none none (Data.func (FuncData.mk (Str.ofString "_law_ways") (Str.ofString "_law_ways") (fnArgs (stm 19)) (FuncBody.stmts (fnBody (stm 19))) (fnScope (stm 19)) 0 [] Value.none Value.none Value.none Value.none none Value.none Value.none 0)) #[]
noncomputable def ob21_207 (P : Params) : Obj := Obj.mk (Value.type "code") none (Data.fields #[Value.str (Str.ofString "_law_ways") 2428, Value.str (Str.ofString "_law_ways") 2429, Value.str (Str.ofString "/claim/cut.py") 2430, Value.int 139 0, Value.int 1 0, Value.int 0 0, Value.int 0 0, Value.int 3 0, Value.ref 202, Value.bool Bool.true, Value.int 181 0, Value.ref 203, Value.none, Value.ref 204, Value.ref 205, Value.ref 206, Value.int 2435 0, Value.int 139 0, Value.str (Str.ofString "/claim/cut.py") 2436]) #[]
noncomputable def ob21_208 (P : Params) : Obj := Obj.mk (Value.type "function") none (Data.func (FuncData.mk (Str.ofString "_law_ways") (Str.ofString "_law_ways") (fnArgs (stm 19)) (FuncBody.stmts (fnBody (stm 19))) (fnScope (stm 19)) 3 [] Value.none Value.none Value.none (Value.str (Str.ofString "law_sn0085_01") 2401) none (Value.ref 207) Value.none 0)) #[]
noncomputable def ob21_209 (P : Params) : Obj := Obj.mk (Value.type "tuple") none (Data.seq #[]) #[]
noncomputable def ob21_210 (P : Params) : Obj := Obj.mk Value.none none (Data.fields #[]) #[]
noncomputable def ob21_211 (P : Params) : Obj := Obj.mk (Value.type "tuple") none (Data.seq #[Value.str (Str.ofString "ways") 2441, Value.str (Str.ofString "above") 2442, Value.str (Str.ofString "walk") 2443, Value.str (Str.ofString "node") 2444]) #[]
noncomputable def ob21_212 (P : Params) : Obj := Obj.mk (Value.type "tuple") none (Data.seq #[]) #[]
noncomputable def ob21_213 (P : Params) : Obj := Obj.mk Value.none none (Data.func (FuncData.mk (Str.ofString "_law_from_right") (Str.ofString "_law_from_right") (fnArgs (stm 20)) (FuncBody.stmts (fnBody (stm 20))) (fnScope (stm 20)) 0 [] Value.none Value.none Value.none Value.none none Value.none Value.none 0)) #[]
noncomputable def ob21_214 (P : Params) : Obj := Obj.mk (Value.type "code") none (Data.fields #[Value.str (Str.ofString "_law_from_right") 2438, Value.str (Str.ofString "_law_from_right") 2439, Value.str (Str.ofString "/claim/cut.py") 2440, Value.int 146 0, Value.int 2 0, Value.int 0 0, Value.int 0 0, Value.int 3 0, Value.ref 209, Value.bool Bool.true, Value.int 181 0, Value.ref 210, Value.none, Value.ref 211, Value.ref 212, Value.ref 213, Value.int 2445 0, Value.int 146 0, Value.str (Str.ofString "/claim/cut.py") 2446]) #[]
noncomputable def ob21_215 (P : Params) : Obj := Obj.mk (Value.type "function") none (Data.func (FuncData.mk (Str.ofString "_law_from_right") (Str.ofString "_law_from_right") (fnArgs (stm 20)) (FuncBody.stmts (fnBody (stm 20))) (fnScope (stm 20)) 3 [] Value.none Value.none Value.none (Value.str (Str.ofString "law_sn0085_01") 2401) none (Value.ref 214) Value.none 0)) #[]
noncomputable def ob21_216 (P : Params) : Obj := Obj.mk (Value.type "tuple") none (Data.seq #[]) #[]
noncomputable def ob21_217 (P : Params) : Obj := Obj.mk Value.none none (Data.fields #[]) #[]
noncomputable def ob21_218 (P : Params) : Obj := Obj.mk Value.none none (Data.func (FuncData.mk (Str.ofString "law") (Str.ofString "law") (fnArgs (stm 21)) (FuncBody.stmts (fnBody (stm 21))) (fnScope (stm 21)) 0 [] Value.none Value.none Value.none Value.none none Value.none Value.none 0)) #[]
noncomputable def ob21_219 (P : Params) : Obj := Obj.mk (Value.type "code") none (Data.fields #[Value.str (Str.ofString "law") 2448, Value.str (Str.ofString "law") 2449, Value.str (Str.ofString "/claim/cut.py") 2450, Value.int 152 0, Value.int 1 0, Value.int 0 0, Value.int 0 0, Value.int 3 0, Value.ref 216, Value.bool Bool.true, Value.int 181 0, Value.ref 217, Value.none, Value.none, Value.none, Value.ref 218, Value.int 2451 0, Value.int 152 0, Value.str (Str.ofString "/claim/cut.py") 2452]) #[]
noncomputable def ob21_220 (P : Params) : Obj := Obj.mk (Value.type "function") none (Data.func (FuncData.mk (Str.ofString "law") (Str.ofString "law") (fnArgs (stm 21)) (FuncBody.stmts (fnBody (stm 21))) (fnScope (stm 21)) 3 [] Value.none Value.none Value.none (Value.str (Str.ofString "law_sn0085_01") 2401) none (Value.ref 219) Value.none 0)) #[]
noncomputable def tree21 (P : Params) : BT := (.node (boot_o_0 P) (.node (boot_o_1 P) (.node (ob21_3 P) (.node (boot_o_7 P) (.node (ob1_15 P) (.node (ob2_31 P) (.node (ob2_63 P) (.node (ob11_127 P) .nil .nil) (.node (ob21_191 P) .nil .nil)) (.node (ob10_95 P) (.node (ob13_159 P) .nil .nil) .nil)) (.node (ob2_47 P) (.node (ob2_79 P) (.node (ob13_143 P) .nil .nil) (.node (ob21_207 P) .nil .nil)) (.node (ob10_111 P) (.node (ob21_175 P) .nil .nil) .nil))) (.node (ob2_23 P) (.node (ob2_39 P) (.node (ob2_71 P) (.node (ob13_135 P) .nil .nil) (.node (ob21_199 P) .nil .nil)) (.node (ob10_103 P) (.node (ob13_167 P) .nil .nil) .nil)) (.node (ob2_55 P) (.node (ob2_87 P) (.node (ob13_151 P) .nil .nil) (.node (ob21_215 P) .nil .nil)) (.node (ob11_119 P) (.node (ob21_183 P) .nil .nil) .nil)))) (.node (ob100_11 P) (.node (ob1_19 P) (.node (ob2_35 P) (.node (ob2_67 P) (.node (ob12_131 P) .nil .nil) (.node (ob21_195 P) .nil .nil)) (.node (ob10_99 P) (.node (ob13_163 P) .nil .nil) .nil)) (.node (ob2_51 P) (.node (ob2_83 P) (.node (ob13_147 P) .nil .nil) (.node (ob21_211 P) .nil .nil)) (.node (ob10_115 P) (.node (ob21_179 P) .nil .nil) .nil))) (.node (ob2_27 P) (.node (ob2_43 P) (.node (ob2_75 P) (.node (ob13_139 P) .nil .nil) (.node (ob21_203 P) .nil .nil)) (.node (ob10_107 P) (.node (ob13_171 P) .nil .nil) .nil)) (.node (ob2_59 P) (.node (ob10_91 P) (.node (ob13_155 P) .nil .nil) (.node (ob21_219 P) .nil .nil)) (.node (ob11_123 P) (.node (ob21_187 P) .nil .nil) .nil))))) (.node (boot_o_5 P) (.node (boot_o_9 P) (.node (ob1_17 P) (.node (ob2_33 P) (.node (ob2_65 P) (.node (ob12_129 P) .nil .nil) (.node (ob21_193 P) .nil .nil)) (.node (ob10_97 P) (.node (ob13_161 P) .nil .nil) .nil)) (.node (ob2_49 P) (.node (ob2_81 P) (.node (ob13_145 P) .nil .nil) (.node (ob21_209 P) .nil .nil)) (.node (ob10_113 P) (.node (ob21_177 P) .nil .nil) .nil))) (.node (ob2_25 P) (.node (ob2_41 P) (.node (ob2_73 P) (.node (ob13_137 P) .nil .nil) (.node (ob21_201 P) .nil .nil)) (.node (ob10_105 P) (.node (ob13_169 P) .nil .nil) .nil)) (.node (ob2_57 P) (.node (ob10_89 P) (.node (ob13_153 P) .nil .nil) (.node (ob21_217 P) .nil .nil)) (.node (ob11_121 P) (.node (ob21_185 P) .nil .nil) .nil)))) (.node (ob100_13 P) (.node (ob1_21 P) (.node (ob2_37 P) (.node (ob2_69 P) (.node (ob12_133 P) .nil .nil) (.node (ob21_197 P) .nil .nil)) (.node (ob10_101 P) (.node (ob13_165 P) .nil .nil) .nil)) (.node (ob2_53 P) (.node (ob2_85 P) (.node (ob13_149 P) .nil .nil) (.node (ob21_213 P) .nil .nil)) (.node (ob11_117 P) (.node (ob21_181 P) .nil .nil) .nil))) (.node (ob2_29 P) (.node (ob2_45 P) (.node (ob2_77 P) (.node (ob13_141 P) .nil .nil) (.node (ob21_205 P) .nil .nil)) (.node (ob10_109 P) (.node (ob13_173 P) .nil .nil) .nil)) (.node (ob2_61 P) (.node (ob10_93 P) (.node (ob13_157 P) .nil .nil) .nil) (.node (ob11_125 P) (.node (ob21_189 P) .nil .nil) .nil)))))) (.node (boot_o_2 P) (.node (boot_o_4 P) (.node (boot_o_8 P) (.node (ob1_16 P) (.node (ob2_32 P) (.node (ob2_64 P) (.node (ob12_128 P) .nil .nil) (.node (ob21_192 P) .nil .nil)) (.node (ob10_96 P) (.node (ob13_160 P) .nil .nil) .nil)) (.node (ob2_48 P) (.node (ob2_80 P) (.node (ob13_144 P) .nil .nil) (.node (ob21_208 P) .nil .nil)) (.node (ob10_112 P) (.node (ob21_176 P) .nil .nil) .nil))) (.node (ob2_24 P) (.node (ob2_40 P) (.node (ob2_72 P) (.node (ob13_136 P) .nil .nil) (.node (ob21_200 P) .nil .nil)) (.node (ob10_104 P) (.node (ob13_168 P) .nil .nil) .nil)) (.node (ob2_56 P) (.node (ob10_88 P) (.node (ob13_152 P) .nil .nil) (.node (ob21_216 P) .nil .nil)) (.node (ob11_120 P) (.node (ob21_184 P) .nil .nil) .nil)))) (.node (ob21_12 P) (.node (ob1_20 P) (.node (ob2_36 P) (.node (ob2_68 P) (.node (ob12_132 P) .nil .nil) (.node (ob21_196 P) .nil .nil)) (.node (ob10_100 P) (.node (ob13_164 P) .nil .nil) .nil)) (.node (ob2_52 P) (.node (ob2_84 P) (.node (ob13_148 P) .nil .nil) (.node (ob21_212 P) .nil .nil)) (.node (ob10_116 P) (.node (ob21_180 P) .nil .nil) .nil))) (.node (ob2_28 P) (.node (ob2_44 P) (.node (ob2_76 P) (.node (ob13_140 P) .nil .nil) (.node (ob21_204 P) .nil .nil)) (.node (ob10_108 P) (.node (ob13_172 P) .nil .nil) .nil)) (.node (ob2_60 P) (.node (ob10_92 P) (.node (ob13_156 P) .nil .nil) (.node (ob21_220 P) .nil .nil)) (.node (ob11_124 P) (.node (ob21_188 P) .nil .nil) .nil))))) (.node (boot_o_6 P) (.node (boot_o_10 P) (.node (ob1_18 P) (.node (ob2_34 P) (.node (ob2_66 P) (.node (ob12_130 P) .nil .nil) (.node (ob21_194 P) .nil .nil)) (.node (ob10_98 P) (.node (ob13_162 P) .nil .nil) .nil)) (.node (ob2_50 P) (.node (ob2_82 P) (.node (ob13_146 P) .nil .nil) (.node (ob21_210 P) .nil .nil)) (.node (ob10_114 P) (.node (ob21_178 P) .nil .nil) .nil))) (.node (ob2_26 P) (.node (ob2_42 P) (.node (ob2_74 P) (.node (ob13_138 P) .nil .nil) (.node (ob21_202 P) .nil .nil)) (.node (ob10_106 P) (.node (ob13_170 P) .nil .nil) .nil)) (.node (ob2_58 P) (.node (ob10_90 P) (.node (ob13_154 P) .nil .nil) (.node (ob21_218 P) .nil .nil)) (.node (ob11_122 P) (.node (ob21_186 P) .nil .nil) .nil)))) (.node (ob100_14 P) (.node (ob2_22 P) (.node (ob2_38 P) (.node (ob2_70 P) (.node (ob12_134 P) .nil .nil) (.node (ob21_198 P) .nil .nil)) (.node (ob10_102 P) (.node (ob13_166 P) .nil .nil) .nil)) (.node (ob2_54 P) (.node (ob2_86 P) (.node (ob13_150 P) .nil .nil) (.node (ob21_214 P) .nil .nil)) (.node (ob11_118 P) (.node (ob21_182 P) .nil .nil) .nil))) (.node (ob2_30 P) (.node (ob2_46 P) (.node (ob2_78 P) (.node (ob13_142 P) .nil .nil) (.node (ob21_206 P) .nil .nil)) (.node (ob10_110 P) (.node (ob21_174 P) .nil .nil) .nil)) (.node (ob2_62 P) (.node (ob10_94 P) (.node (ob13_158 P) .nil .nil) .nil) (.node (ob11_126 P) (.node (ob21_190 P) .nil .nil) .nil)))))))
noncomputable def st21 (w : World) (os : OsState) : SharedT := ⟨tree21 w.params, 221, {}, ⟨[]⟩, {}, 2454, os⟩
noncomputable def K (P : Params) : Frag :=
  (nat_lit 2, boot_o_2 P) :: (nat_lit 3, ob21_3 P) :: (nat_lit 15, ob1_15 P) :: (nat_lit 17, ob1_17 P) :: (nat_lit 18, ob1_18 P) :: (nat_lit 20, ob1_20 P) :: (nat_lit 21, ob1_21 P) :: (nat_lit 32, ob2_32 P) :: (nat_lit 34, ob2_34 P) :: (nat_lit 35, ob2_35 P) :: (nat_lit 37, ob2_37 P) :: (nat_lit 38, ob2_38 P) :: (nat_lit 39, ob2_39 P) :: (nat_lit 41, ob2_41 P) :: (nat_lit 42, ob2_42 P) :: (nat_lit 44, ob2_44 P) :: (nat_lit 45, ob2_45 P) :: (nat_lit 46, ob2_46 P) :: (nat_lit 48, ob2_48 P) :: (nat_lit 49, ob2_49 P) :: (nat_lit 51, ob2_51 P) :: (nat_lit 52, ob2_52 P) :: (nat_lit 53, ob2_53 P) :: (nat_lit 55, ob2_55 P) :: (nat_lit 56, ob2_56 P) :: (nat_lit 58, ob2_58 P) :: (nat_lit 59, ob2_59 P) :: (nat_lit 60, ob2_60 P) :: (nat_lit 62, ob2_62 P) :: (nat_lit 63, ob2_63 P) :: (nat_lit 65, ob2_65 P) :: (nat_lit 66, ob2_66 P) :: (nat_lit 67, ob2_67 P) :: (nat_lit 69, ob2_69 P) :: (nat_lit 70, ob2_70 P) :: (nat_lit 72, ob2_72 P) :: (nat_lit 73, ob2_73 P) :: (nat_lit 74, ob2_74 P) :: (nat_lit 76, ob2_76 P) :: (nat_lit 77, ob2_77 P) :: (nat_lit 79, ob2_79 P) :: (nat_lit 80, ob2_80 P) :: (nat_lit 81, ob2_81 P) :: (nat_lit 82, ob2_82 P) :: (nat_lit 83, ob2_83 P) :: (nat_lit 84, ob2_84 P) :: (nat_lit 85, ob2_85 P) :: (nat_lit 88, ob10_88 P) :: (nat_lit 89, ob10_89 P) :: (nat_lit 91, ob10_91 P) :: (nat_lit 92, ob10_92 P) :: (nat_lit 94, ob10_94 P) :: (nat_lit 95, ob10_95 P) :: (nat_lit 96, ob10_96 P) :: (nat_lit 98, ob10_98 P) :: (nat_lit 99, ob10_99 P) :: (nat_lit 101, ob10_101 P) :: (nat_lit 102, ob10_102 P) :: (nat_lit 103, ob10_103 P) :: (nat_lit 105, ob10_105 P) :: (nat_lit 106, ob10_106 P) :: (nat_lit 108, ob10_108 P) :: (nat_lit 109, ob10_109 P) :: (nat_lit 110, ob10_110 P) :: (nat_lit 112, ob10_112 P) :: (nat_lit 113, ob10_113 P) :: (nat_lit 115, ob10_115 P) :: (nat_lit 116, ob10_116 P) :: (nat_lit 124, ob11_124 P) :: (nat_lit 128, ob12_128 P) :: (nat_lit 130, ob12_130 P) :: (nat_lit 131, ob12_131 P) :: (nat_lit 133, ob12_133 P) :: (nat_lit 134, ob12_134 P) :: (nat_lit 135, ob13_135 P) :: (nat_lit 174, ob21_174 P) :: (nat_lit 176, ob21_176 P) :: (nat_lit 177, ob21_177 P) :: (nat_lit 179, ob21_179 P) :: (nat_lit 180, ob21_180 P) :: (nat_lit 181, ob21_181 P) :: (nat_lit 183, ob21_183 P) :: (nat_lit 184, ob21_184 P) :: (nat_lit 186, ob21_186 P) :: (nat_lit 187, ob21_187 P) :: (nat_lit 188, ob21_188 P) :: (nat_lit 190, ob21_190 P) :: (nat_lit 191, ob21_191 P) :: (nat_lit 193, ob21_193 P) :: (nat_lit 194, ob21_194 P) :: (nat_lit 195, ob21_195 P) :: (nat_lit 197, ob21_197 P) :: (nat_lit 198, ob21_198 P) :: (nat_lit 200, ob21_200 P) :: (nat_lit 201, ob21_201 P) :: (nat_lit 202, ob21_202 P) :: (nat_lit 204, ob21_204 P) :: (nat_lit 205, ob21_205 P) :: (nat_lit 207, ob21_207 P) :: (nat_lit 208, ob21_208 P) :: (nat_lit 209, ob21_209 P) :: (nat_lit 211, ob21_211 P) :: (nat_lit 212, ob21_212 P) :: (nat_lit 214, ob21_214 P) :: (nat_lit 215, ob21_215 P) :: (nat_lit 216, ob21_216 P) :: (nat_lit 219, ob21_219 P) :: (nat_lit 220, ob21_220 P) :: []
noncomputable def q : Program := { PySem.Challenge.pw_sn0085_01 with main := { PySem.Challenge.pw_sn0085_01.main with body := [stm 0, stm 2, stm 4, stm 5, stm 7, stm 8, stm 9, stm 11, stm 12, stm 14, stm 16, stm 17, stm 18, stm 19, stm 20, stm 21] } }
noncomputable def forBody : Stmt → List Stmt
  | .For (body := b) .. => b
  | _ => []
noncomputable def ifBody : Stmt → List Stmt
  | .If (body := b) .. => b
  | _ => []
noncomputable def lawB0 : Stmt := nthS (fnBody (stm 21)) 0
noncomputable def lawB1 : Stmt := nthS (fnBody (stm 21)) 1
noncomputable def lawB2 : Stmt := nthS (fnBody (stm 21)) 2
noncomputable def lawB3 : Stmt := nthS (fnBody (stm 21)) 3
noncomputable def lawB4 : Stmt := nthS (fnBody (stm 21)) 4
noncomputable def lawB5 : Stmt := nthS (fnBody (stm 21)) 5
noncomputable def lawB6 : Stmt := nthS (fnBody (stm 21)) 6
noncomputable def lawB7 : Stmt := nthS (fnBody (stm 21)) 7
noncomputable def lawB8 : Stmt := nthS (fnBody (stm 21)) 8
noncomputable def lawB9 : Stmt := nthS (fnBody (stm 21)) 9
noncomputable def lawB10 : Stmt := nthS (fnBody (stm 21)) 10
noncomputable def lawB11 : Stmt := nthS (fnBody (stm 21)) 11
noncomputable def lawB12 : Stmt := nthS (fnBody (stm 21)) 12
noncomputable def lawB13 : Stmt := nthS (fnBody (stm 21)) 13
noncomputable def lawB14 : Stmt := nthS (fnBody (stm 21)) 14
noncomputable def lawB15 : Stmt := nthS (fnBody (stm 21)) 15
noncomputable def lawB16 : Stmt := nthS (fnBody (stm 21)) 16
noncomputable def lawB17 : Stmt := nthS (fnBody (stm 21)) 17
noncomputable def lawB18 : Stmt := nthS (fnBody (stm 21)) 18
noncomputable def lawB19 : Stmt := nthS (fnBody (stm 21)) 19
noncomputable def lawC0 : Stmt := nthS (forBody (nthS (forBody lawB17) 0)) 0
noncomputable def lawC1 : Stmt := nthS (forBody (nthS (forBody lawB17) 0)) 1
noncomputable def lawC2 : Stmt := nthS (forBody (nthS (forBody lawB17) 0)) 2
noncomputable def lawD0 : Stmt := nthS (ifBody lawC2) 0
noncomputable def lawD1 : Stmt := nthS (ifBody lawC2) 1
noncomputable def lawD2 : Stmt := nthS (ifBody lawC2) 2
noncomputable def lawSc : Scope := fnScope (stm 21)
end Mine
end
section
open PySem PySem.W PySem.Spec PySem.Calls PyProof.Rows
namespace Mine
theorem reg : (fun (_ : OpenLaw) (_ : Params → Frag) => True) PySem.Challenge.rw_sn0085_01 Mine.K := by
  k_fill
  exact trivial
noncomputable abbrev prog : Program := PySem.Challenge.rw_sn0085_01.row.prog
noncomputable abbrev Led := List (Addr × Obj)
/-- a call of a def of the text: what it hands back, and what it made (tl) -/
noncomputable abbrev CallD (w : World) (p : Program) (loose : List Str) (mean : ExcName → Option Value) (mg mb : Str → Option Value) (f : Addr) (dd uu : Nat) (news : Led) (vs : List Value) (post : Led → Value → Prop) : Prop :=
  ∀ (dp un : Nat) (gd : Option (List Code)) (cn : Str) (cs : Scope) (a : Addr) (ccd : Value) (cl : List (Str × Addr)) (outer : List Env) (A₀ : Around) (base h₀ : Heap) (L : Addr) (m : Str → Option Value) (s : Shared) (Q E : Value → Shared → Prop),
    Below A₀ base outer h₀ → Fr h₀ L s.heap m → (Mine.K w.params).In h₀ → News h₀ L s.heap news → Top p loose mean mg mb h₀ → cs.kind = .function → dp + dd < recursionLimit → un + uu < cLine →
    (∀ r tl h' tk', Fr h₀ L h' m → News h₀ L h' (tl ++ news) → (∀ q ∈ news, ∀ p ∈ tl, q.1 < p.1) → post tl r → Q r { s with heap := h', toks := tk' }) →
    wpAny (model prog w) (ktrTop dp un gd cn cs L a ccd cl outer) (call (.ref f) vs) Q E s

theorem ord_nil {news : Led} : ∀ q ∈ news, ∀ p ∈ ([] : Led), q.1 < p.1 := fun _ _ _ h => nomatch h
theorem news_left {h₀ h : Heap} {L : Addr} {l l' : Led} (N : News h₀ L h (l ++ l')) : News h₀ L h l' := fun p hp => N p (List.mem_append.mpr (.inr hp))
theorem news_tail {h₀ h : Heap} {L : Addr} {q : Addr × Obj} {l' : Led} (N : News h₀ L h (q :: l')) : News h₀ L h l' := N.tail'
end Mine
end
section
open PySem PySem.W PySem.Spec PySem.Calls PyProof.Rows
namespace Mine
section
variable (prog : Program) (w : World) (A : Around) (env : Env) (E : Value → Shared → Prop) (h₀ : Heap) (L : Addr) (m : Str → Option Value)
/-- an expression that lays data -/
noncomputable def Shows (e : Expr) (d : Dat) : Prop :=
  ∀ (news : Led) (s : Shared) (Q : Value → Shared → Prop), Fr h₀ L s.heap m → News h₀ L s.heap news →
    (∀ v tl h' tk', Fr h₀ L h' m → News h₀ L h' (tl ++ news) → (∀ q ∈ news, ∀ p ∈ tl, q.1 < p.1) → DatIn tl v d → Q v { s with heap := h', toks := tk' }) → wpAny (model prog w) A (eval e env) Q E s
noncomputable def ShowsAll (es : List Expr) (ds : List Dat) : Prop :=
  ∀ (news : Led) (s : Shared) (pos : Pos) (Q : List Value → Shared → Prop), Fr h₀ L s.heap m → News h₀ L s.heap news →
    (∀ vs tl h' tk', Fr h₀ L h' m → News h₀ L h' (tl ++ news) → (∀ q ∈ news, ∀ p ∈ tl, q.1 < p.1) → DatAll tl vs ds → Q vs { s with heap := h', toks := tk' }) → wpAny (model prog w) A (spliced (backTo pos (starEach es env))) Q E s
end
section
variable {prog : Program} {w : World} {A : Around} {env : Env} {E : Value → Shared → Prop} {h₀ : Heap} {L : Addr} {m : Str → Option Value}
theorem shows_int {i : Int} {k : Nat} {pos : Pos} : Shows prog w A env E h₀ L m (.Constant (.int i) k pos) (.int i) := fun news s Q F N h =>
  wpAny_Constant_int (h _ [] _ _ F N ord_nil (.int _ _))
theorem shows_str {x : Str} {k : Nat} {pos : Pos} : Shows prog w A env E h₀ L m (.Constant (.str x) k pos) (.str x) := fun news s Q F N h =>
  Calls.Constant_str (h _ [] _ _ F N ord_nil (.str _ _))
theorem shows_nil : ShowsAll prog w A env E h₀ L m [] [] := fun news s pos Q F N h => spliced_none (h _ [] _ _ F N ord_nil .nil)

theorem ord_app {news tl tl' : Led} (h : ∀ q ∈ news, ∀ p ∈ tl, q.1 < p.1) (k : ∀ q ∈ tl ++ news, ∀ p ∈ tl', q.1 < p.1) : ∀ q ∈ news, ∀ p ∈ tl' ++ tl, q.1 < p.1 := fun q hq p hp =>
  (List.mem_append.mp hp).elim (fun x => k q (List.mem_append.mpr (.inr hq)) p x) (fun x => h q hq p x)
theorem shows_cons {e : Expr} {es : List Expr} {d : Dat} {ds : List Dat} (he : Shows prog w A env E h₀ L m e d) (hs : ShowsAll prog w A env E h₀ L m es ds) (st : starEach (e :: es) env = (false, eval e env) :: starEach es env := by rfl) : ShowsAll prog w A env E h₀ L m (e :: es) (d :: ds) := fun news s pos Q F N h => by
  refine spliced_more (he news s _ F N fun v tl h' tk' F' N' o' D' => ?_) st
  refine hs (tl ++ news) _ pos _ F' N' fun vs tl' h'' tk'' F'' N'' o'' D'' => ?_
  exact h (v :: vs) (tl' ++ tl) _ _ F'' (by rw [List.append_assoc]; exact N'') (ord_app o' o'') (.cons (D'.mono fun p hp => List.mem_append.mpr (.inr hp)) (D''.mono fun p hp => List.mem_append.mpr (.inl hp)))
theorem shows_tuple {es : List Expr} {ds : List Dat} {k : Nat} {pos : Pos} (hs : ShowsAll prog w A env E h₀ L m es ds) (hz : ds.length ≤ sizeLine := by decide) : Shows prog w A env E h₀ L m (.Tuple es k pos) (.tuple ds) := fun news s Q F N h => by
  refine Tuple_ (hs news s pos _ F N fun vs tl h' tk' F' N' o' D' => ?_)
  refine kup_newTuple F' N' (fun D h'' F'' N'' l => ?_) (by rw [D'.length]; exact hz)
  refine h (.ref D) ((D, _) :: tl) _ _ F'' N'' (fun q hq p hp => ?_) (.tuple (n := 0) (.head _) (D'.mono fun p hp => .tail _ hp))
  rcases List.mem_cons.mp hp with rfl | hp
  · exact l q (List.mem_append.mpr (.inr hq))
  · exact o' q hq p hp
theorem shows_list {es : List Expr} {ds : List Dat} {pos : Pos} (hs : ShowsAll prog w A env E h₀ L m es ds) (hz : ds.length ≤ sizeLine := by decide) : Shows prog w A env E h₀ L m (.List es pos) (.list ds) := fun news s Q F N h => by
  refine List_ (hs news s pos _ F N fun vs tl h' tk' F' N' o' D' => ?_)
  refine newList_K F' N' (fun D h'' F'' N'' l => ?_) (by rw [D'.length]; exact hz)
  refine h (.ref D) ((D, _) :: tl) _ _ F'' N'' (fun q hq p hp => ?_) (.list (n := 0) (.head _) (D'.mono fun p hp => .tail _ hp))
  rcases List.mem_cons.mp hp with rfl | hp
  · exact l q (List.mem_append.mpr (.inr hq))
  · exact o' q hq p hp
end

/-! ## reading data of the ledger -/
section
variable {prog : Program} {w : World} {A : Around} {E : Value → Shared → Prop} {s : Shared} {h₀ : Heap} {L l : Addr} {R news : Led}
theorem newsSub (N : News h₀ L s.heap news) (sub : ∀ p ∈ R, p ∈ news) : News h₀ L s.heap R := fun p hp => N p (sub p hp)
theorem d_item {value slice : Expr} {ds : List Dat} {k : Int} {u : Tok} {Q : Value → Shared → Prop} (N : News h₀ L s.heap news) (D : DatIn R (.ref l) (.list ds)) (sub : ∀ p ∈ R, p ∈ news)
    (h0 : 0 ≤ k) (h1 : k < (ds.length : Int)) (hf : ds.length < 2 ^ 62) (h : ∀ v d, ds[k.toNat]? = some d → d ∈ ds → DatIn R v d → Q v s)
    (hs : subscripted slice false (.ref l) (.int k u) = operate [.ref l, .int k u] (getItem (.ref l) (.int k u)) := by with_unfolding_all rfl) :
    wpAny (model prog w) A (subscriptTail value slice (.ref l) (.int k u)) Q E s := by
  cases D with
  | list hm hA => exact kd_item N (sub _ hm) hA h0 h1 (by omega) h hs
theorem d_len {ds : List Dat} {Q : Value → Shared → Prop} (N : News h₀ L s.heap news) (D : DatIn R (.ref l) (.list ds)) (sub : ∀ p ∈ R, p ∈ news) (hf : ds.length < 2 ^ 62)
    (h : Q (.int (ds.length : Int) (s.toks + 1)) { s with toks := s.toks + 1 + 1 }) : wpAny (model prog w) A (call (.builtin "len") [.ref l]) Q E s := by
  cases D with
  | list hm hA => exact kd_len N (sub _ hm) hA (by omega) h
theorem d_tup {value slice : Expr} {ds : List Dat} {k : Nat} {u : Tok} {d : Dat} {Q : Value → Shared → Prop} (N : News h₀ L s.heap news) (D : DatIn R (.ref l) (.tuple ds)) (sub : ∀ p ∈ R, p ∈ news)
    (hd : ds[k]? = some d) (hk : k < 2 ^ 62) (h : ∀ v, DatIn R v d → Q v s)
    (hs : subscripted slice false (.ref l) (.int (k : Int) u) = operate [.ref l, .int (k : Int) u] (getItem (.ref l) (.int (k : Int) u)) := by with_unfolding_all rfl) :
    wpAny (model prog w) A (subscriptTail value slice (.ref l) (.int (k : Int) u)) Q E s := by
  cases D with
  | tuple hm hA =>
    obtain ⟨hk', e⟩ := List.getElem?_eq_some_iff.mp hd
    obtain ⟨v, hv, hD⟩ := hA.get hk'
    have hl := hA.length
    refine item_tupleT (News.isTup N (sub _ hm)) (by omega) (by omega) (j := k) ?_ (by simpa using hv) (h v (e ▸ hD)) hs
    have a1 : ¬ (k : Int) < 0 := by omega
    have a2 : (0 : Int) ≤ k := by omega
    have a3 : (k : Int) < (ds.length : Int) := by omega
    simp only [seqIndex?]
    rw [hl]
    simp [a1, a2, a3]
end
theorem end_sub {h₀ h : Heap} {L : Addr} {q : Addr × Obj} {l news : Led} (N : News h₀ L h (q :: l)) (sub : ∀ p ∈ news, p ∈ l) : News h₀ L h ([q] ++ news) := fun p hp => by
  rcases List.mem_cons.mp hp with rfl | hp
  · exact N _ (.head _)
  · exact N _ (.tail _ (sub p hp))
theorem ord_one {D : Addr} {o : Obj} {l news : Led} (h : AllLt D l) (sub : ∀ p ∈ news, p ∈ l) : ∀ q ∈ news, ∀ p ∈ ([(D, o)] : Led), q.1 < p.1 := fun q hq p hp => by
  rw [List.mem_singleton.mp hp]
  exact ktn_ltOf h q (sub q hq)
section
variable {prog : Program} {w : World} {A : Around} {E : Value → Shared → Prop} {s : Shared} {h₀ : Heap} {L l : Addr} {m : Str → Option Value} {news : Led}
theorem tuple_K {its : Array Value} {n : Nat} {Q : Value → Shared → Prop} (F : Fr h₀ L s.heap m) (N : News h₀ L s.heap news) (hm : (l, listOf its n) ∈ news) (hz : its.size ≤ sizeLine)
    (h : ∀ D h', Fr h₀ L h' m → News h₀ L h' ((D, ({ cls := .type "tuple", data := .seq its } : Obj)) :: news) → (∀ p ∈ news, p.1 < D) → Q (.ref D) { s with heap := h' }) : wpAny (model prog w) A (call (.type "tuple") [.ref l]) Q E s := by
  refine call_tuple_list ⟨_, (N _ hm).1, rfl, n, rfl⟩ (fun h' hk => ?_) hz
  exact h _ _ ((F.kept hk).push _) ((N.grown hk).push (F.kept hk) _) fun p hp => Heap.lt_size (N.grown hk p hp).1
theorem lenTup_K {vs : List Value} {ns : List Int} {n : Nat} {Q : Value → Shared → Prop} (N : News h₀ L s.heap news) (hm : (l, ({ cls := .type "tuple", data := .seq vs.toArray n } : Obj)) ∈ news) (hi : IntsAre vs ns) (hz : ns.length < 2 ^ 62)
    (h : Q (.int ns.length (s.toks + 1)) { s with toks := s.toks + 1 + 1 }) : wpAny (model prog w) A (call (.builtin "len") [.ref l]) Q E s := by
  have e : vs.toArray.size = ns.length := by rw [List.size_toArray]; exact hi.length
  exact PyProof.Rows.len_tuple (News.isTup N hm) (by rw [e]; omega) (by rw [e]; exact h)
end
theorem fr_lift {h₀ h h' : Heap} {L : Addr} {m : Str → Option Value} (F : Fr h₀ L h m) (hk : ∀ b o, h.get? b = some o → h'.get? b = some o) : Fr h₀ L h' m := F.kept hk
theorem news_lift {h₀ h h' : Heap} {L : Addr} {news : Led} (N : News h₀ L h news) (hk : ∀ b o, h.get? b = some o → h'.get? b = some o) : News h₀ L h' news := N.grown hk
end Mine
end
section
open PySem PySem.W PySem.Spec PySem.Calls PyProof.Rows
namespace Mine
/-- the walk stands still here -/
noncomputable def Stop (P : Prop) : Prop := P
theorem stop {P : Prop} (h : Stop P) : P := h
section
variable {prog : Program} {w : World} {A : Around} {E : Value → Shared → Prop} {s : Shared} {env : Env} {h₀ : Heap} {x : Str} {body : List Stmt} {Q : Flow → Shared → Prop}
/-- the end of a turn: (I, oI) is the iterator -/
noncomputable def TurnEnd (h₀ : Heap) (L : Addr) (q : Addr × Obj) (J : (Str → Option Value) → Led → Prop) (s₁ : Shared) (Q : Flow → Shared → Prop) (f : Flow) (s₂ : Shared) : Prop :=
  match f with
  | .ret v => Q (.ret v) s₂
  | .brk => Q .next s₂
  | _ => ∃ h' tk m' news', s₂ = { s₁ with heap := h', toks := tk } ∧ Fr h₀ L h' m' ∧ News h₀ L h' (q :: news') ∧ (∀ p ∈ news', p.1 ≠ q.1) ∧ J m' news'
theorem loop1 {I : Addr} {n : Nat} {P : Nat → Value → Prop} {St : Nat → Heap → Prop} {m₀ : Str → Option Value} {news : Led} (J : Nat → (Str → Option Value) → Led → Prop)
    (W : Walks prog w A I [I] [I] n P St) (hI : ∀ i h, St i h → ∃ o, h.get? I = some o) (hL : env.locals ≠ I) (hI0 : h₀.get? I = none) (hnw : ∀ p ∈ news, p.1 ≠ I) (hst : St 0 s.heap) (F : Fr h₀ env.locals s.heap m₀) (N : News h₀ env.locals s.heap news) (hj : J 0 m₀ news)
    (turn : ∀ i v m₁ news₁ h tk q, i < n → P i v → J i m₁ news₁ → (∀ p ∈ news₁, p.1 ≠ q.1) → Fr h₀ env.locals h (fun y => if y = x then some v else m₁ y) → News h₀ env.locals h (q :: news₁) →
      wpAny (model prog w) A (execs body env) (TurnEnd h₀ env.locals q (J (i + 1)) { s with heap := h, toks := tk } Q) E { s with heap := h, toks := tk })
    (done : ∀ m₁ news₁ h tk, J n m₁ news₁ → Fr h₀ env.locals h m₁ → News h₀ env.locals h news₁ → Q .next { s with heap := h, toks := tk }) :
    LoopAtV prog w A h₀ env x body Q E (.ref I) s := by
  refine ⟨I, [I], [I], n, P, St, m₀, news, J, rfl, W, fun h => hL (List.mem_singleton.mp h), fun b hb => (List.mem_singleton.mp hb) ▸ hI0, fun p hp h => hnw p hp (List.mem_singleton.mp h), hst, F, N, hj, ?_, ?_⟩
  · rintro i v m₁ news₁ s₁ own ⟨h, tk, rfl⟩ hi hP hJ hn hown hget hmem hst' F₁ N₁
    obtain ⟨oI, ho⟩ := hI _ _ hst'
    have hin : (I, oI) ∈ own := hmem I (.head _) hI0 oI ho
    have N₂ : News h₀ env.locals h ((I, oI) :: news₁) := fun p hp => by
      rcases List.mem_cons.mp hp with rfl | hp
      · exact N₁ _ (List.mem_append.mpr (.inl hin))
      · exact N₁ _ (List.mem_append.mpr (.inr hp))
    refine wpAny_mono (turn i v m₁ news₁ h tk (I, oI) hi hP hJ (fun p hp e => hn p hp (List.mem_singleton.mpr e)) F₁ N₂) (fun f s₂ p => ?_) fun _ _ e => e
    have goesOn : TurnEnd h₀ env.locals (I, oI) (J (i + 1)) { s with heap := h, toks := tk } Q .next s₂ → LoopStepU h₀ env.locals [I] own (J (i + 1)) { s with heap := h, toks := tk } .next s₂ := by
      rintro ⟨h', tk', m', news', e, F', N', hn', hj'⟩
      have sole : ∀ p ∈ own, p = (I, oI) := fun p hp => by
        have e1 : p.1 = I := List.mem_singleton.mp (hown p hp)
        exact Prod.ext e1 (Option.some.inj ((e1 ▸ hget p hp).symm.trans ho))
      refine e ▸ LoopStepU.intro F' (fun p hp => (List.mem_append.mp hp).elim (fun hp => N' p (sole p hp ▸ .head _)) fun hp => N' p (.tail _ hp)) (fun p hp hq => hn' p hp (List.mem_singleton.mp hq)) hj'
    match f, p with
    | .ret _, p => exact .ret p
    | .brk, p => exact .brk p
    | .next, p => exact .next (goesOn p)
    | .cont, p => exact .cont (goesOn p)
  · exact fun h' tk m' news' F' N' _ hJ => done m' news' h' tk hJ F' N'
theorem loopStr {xt : Str} {tx : Tok} {m₀ : Str → Option Value} {news : Led} (J : Nat → (Str → Option Value) → Led → Prop)
    (hh : A.handled = none) (F : Fr h₀ env.locals s.heap m₀) (N : News h₀ env.locals s.heap news) (hj : J 0 m₀ news)
    (turn : ∀ i c t m₁ news₁ h tk q, xt.cps[i]? = some c → J i m₁ news₁ → (∀ p ∈ news₁, p.1 ≠ q.1) → Fr h₀ env.locals h (fun y => if y = x then some (.str ⟨#[c]⟩ t) else m₁ y) → News h₀ env.locals h (q :: news₁) →
      wpAny (model prog w) A (execs body env) (TurnEnd h₀ env.locals q (J (i + 1)) { s with heap := h, toks := tk } Q) E { s with heap := h, toks := tk })
    (done : ∀ m₁ news₁ h tk, J xt.cps.size m₁ news₁ → Fr h₀ env.locals h m₁ → News h₀ env.locals h news₁ → Q .next { s with heap := h, toks := tk }) :
    wpAny (model prog w) A (pyIter (.str xt tx)) (fun it s₂ => LoopAtV prog w A h₀ env x body Q E it s₂) E s := by
  have hI0 : h₀.get? s.heap.objs.size = none := by
    cases q : h₀.get? s.heap.objs.size with
    | none => rfl
    | some o => exact absurd (Heap.lt_size (F.keep _ _ q)) (Nat.lt_irrefl _)
  have key : ∀ (o : Obj) (ty : String), (Walks prog w A s.heap.objs.size [s.heap.objs.size] [s.heap.objs.size] xt.cps.size (SignAt xt) (fun i h => h.IsStrIter s.heap.objs.size ty xt tx i)) → (s.heap.push o).IsStrIter s.heap.objs.size ty xt tx 0 → o.isFreed = false →
      LoopAtV prog w A h₀ env x body Q E (.ref s.heap.objs.size) { s with heap := s.heap.push o } := by
    intro o ty W hst hf
    refine loop1 J W (fun i h hs => let ⟨o, ho, _⟩ := hs; ⟨o, ho⟩) (fun e => absurd F.ns.lt (by rw [e]; exact Nat.lt_irrefl _)) hI0 (fun p hp e => absurd (Heap.lt_size (N p hp).1) (by rw [e]; exact Nat.lt_irrefl _)) hst (F.push _)
      (fun p hp => ⟨Heap.get?_push_of_some _ (N p hp).1, (N p hp).2⟩) hj ?_ ?_
    · rintro i v m₁ news₁ h tk q hi ⟨c, u, hc, rfl⟩ hJ hn F₁ N₁
      exact turn i c u m₁ news₁ h tk q hc hJ hn F₁ N₁
    · exact fun m₁ news₁ h tk hJ F₁ N₁ => done m₁ news₁ h tk hJ F₁ N₁
  cases ha : xt.cps.all (· < 128)
  · exact wpAny_pyIter_wide ha (key _ _ (Walks.strWide hh _ xt tx) ⟨_, Heap.get?_push_size _ rfl, rfl, rfl⟩ rfl)
  · exact wpAny_pyIter_ascii ha (key _ _ (Walks.strAscii hh _ xt tx) ⟨_, Heap.get?_push_size _ rfl, rfl, rfl⟩ rfl)
theorem loopRange {r : Addr} {a₀ b₀ c₀ : Int} {t₀ u₀ v₀ : Tok} {n : Nat} {m₀ : Str → Option Value} {news : Led} (J : Nat → (Str → Option Value) → Led → Prop)
    (hh : A.handled = none) (hr : IsRange s.heap r a₀ b₀ c₀ t₀ u₀ v₀) (hsmall : Builtin.Range.small a₀ b₀ c₀ = true) (hn : Builtin.Range.rangeSize a₀ b₀ c₀ = (n : Int)) (F : Fr h₀ env.locals s.heap m₀) (N : News h₀ env.locals s.heap news) (hj : J 0 m₀ news)
    (turn : ∀ (i : Nat) t m₁ news₁ h tk q, i < n → J i m₁ news₁ → (∀ p ∈ news₁, p.1 ≠ q.1) → Fr h₀ env.locals h (fun y => if y = x then some (.int (a₀ + i * c₀) t) else m₁ y) → News h₀ env.locals h (q :: news₁) →
      wpAny (model prog w) A (execs body env) (TurnEnd h₀ env.locals q (J (i + 1)) { s with heap := h, toks := tk } Q) E { s with heap := h, toks := tk })
    (done : ∀ m₁ news₁ h tk, J n m₁ news₁ → Fr h₀ env.locals h m₁ → News h₀ env.locals h news₁ → Q .next { s with heap := h, toks := tk }) :
    wpAny (model prog w) A (pyIter (.ref r)) (fun it s₂ => LoopAtV prog w A h₀ env x body Q E it s₂) E s := by
  refine wpAny_pyIter_range hr hsmall ?_
  have hI0 : h₀.get? s.heap.objs.size = none := by
    cases q : h₀.get? s.heap.objs.size with
    | none => rfl
    | some o => exact absurd (Heap.lt_size (F.keep _ _ q)) (Nat.lt_irrefl _)
  have W : Walks prog w A s.heap.objs.size [s.heap.objs.size] [s.heap.objs.size] n (fun i v => i < n ∧ ∃ t, v = .int (a₀ + i * c₀) t)
      (fun i h => IsRangeIter h s.heap.objs.size (a₀ + (i : Nat) * c₀) ((n : Int) - (i : Nat)) c₀) := (Walks.range hh _ a₀ c₀ n).bound
  refine loop1 J W (fun i h hi => ⟨_, hi⟩) (fun e => absurd F.ns.lt (by rw [e]; exact Nat.lt_irrefl _)) hI0 (fun p hp e => absurd (Heap.lt_size (N p hp).1) (by rw [e]; exact Nat.lt_irrefl _))
    (by show IsRangeIter _ _ _ _ _; rw [hn]; simpa using Heap.get?_push_size _ rfl) (F.push _) (fun p hp => ⟨Heap.get?_push_of_some _ (N p hp).1, (N p hp).2⟩) hj ?_ ?_
  · rintro i v m₁ news₁ h tk q hi ⟨_, u, rfl⟩ hJ hn F₁ N₁
    exact turn i u m₁ news₁ h tk q hi hJ hn F₁ N₁
  · exact fun m₁ news₁ h tk hJ F₁ N₁ => done m₁ news₁ h tk hJ F₁ N₁
theorem loopUp {r : Addr} {a₀ b₀ : Int} {t₀ u₀ v₀ : Tok} {m₀ : Str → Option Value} {news : Led} (J : Nat → (Str → Option Value) → Led → Prop)
    (hh : A.handled = none) (F : Fr h₀ env.locals s.heap m₀) (N : News h₀ env.locals s.heap news) (hr : IsRange s.heap r a₀ b₀ 1 t₀ u₀ v₀)
    (ha : -(2 ^ 62) ≤ a₀) (ha' : a₀ < 2 ^ 62) (hb : -(2 ^ 62) ≤ b₀) (hb' : b₀ < 2 ^ 62) (hj : J 0 m₀ news)
    (turn : ∀ (i : Nat) t m₁ news₁ h tk q, a₀ + i < b₀ → J i m₁ news₁ → (∀ p ∈ news₁, p.1 ≠ q.1) → Fr h₀ env.locals h (fun y => if y = x then some (.int (a₀ + i) t) else m₁ y) → News h₀ env.locals h (q :: news₁) →
      wpAny (model prog w) A (execs body env) (TurnEnd h₀ env.locals q (J (i + 1)) { s with heap := h, toks := tk } Q) E { s with heap := h, toks := tk })
    (done : ∀ m₁ news₁ h tk, J (b₀ - a₀).toNat m₁ news₁ → Fr h₀ env.locals h m₁ → News h₀ env.locals h news₁ → Q .next { s with heap := h, toks := tk }) :
    wpAny (model prog w) A (pyIter (.ref r)) (fun it s₂ => LoopAtV prog w A h₀ env x body Q E it s₂) E s := by
  refine loopRange J hh hr (small_one ha ha' hb hb') (rangeSize_nat a₀ b₀) F N hj ?_ done
  intro i t m₁ news₁ h tk q hi hJ hn F₁ N₁
  rw [Int.mul_one] at F₁
  exact turn i t m₁ news₁ h tk q (by omega) hJ hn F₁ N₁
theorem loopNone {r : Addr} {a₀ b₀ : Int} {t₀ u₀ v₀ : Tok} {m₀ : Str → Option Value} {news : Led}
    (hh : A.handled = none) (F : Fr h₀ env.locals s.heap m₀) (N : News h₀ env.locals s.heap news) (hr : IsRange s.heap r a₀ b₀ 1 t₀ u₀ v₀)
    (ha : -(2 ^ 62) ≤ a₀) (ha' : a₀ < 2 ^ 62) (hb : -(2 ^ 62) ≤ b₀) (hb' : b₀ < 2 ^ 62) (hle : b₀ ≤ a₀)
    (done : ∀ h tk, Fr h₀ env.locals h m₀ → News h₀ env.locals h news → Q .next { s with heap := h, toks := tk }) :
    wpAny (model prog w) A (pyIter (.ref r)) (fun it s₂ => LoopAtV prog w A h₀ env x body Q E it s₂) E s := by
  refine loopUp (fun i m nx => m = m₀ ∧ nx = news) hh F N hr ha ha' hb hb' ⟨rfl, rfl⟩ ?_ ?_
  · intro i t m₁ news₁ h tk q hi
    omega
  · rintro m₁ news₁ h tk ⟨rfl, rfl⟩ F₁ N₁
    exact done h tk F₁ N₁
theorem loopOnce {r : Addr} {a₀ b₀ : Int} {t₀ u₀ v₀ : Tok} {m₀ : Str → Option Value} {news : Led}
    (hh : A.handled = none) (F : Fr h₀ env.locals s.heap m₀) (N : News h₀ env.locals s.heap news) (hr : IsRange s.heap r a₀ b₀ 1 t₀ u₀ v₀)
    (ha : -(2 ^ 62) ≤ a₀) (ha' : a₀ < 2 ^ 62) (hb : -(2 ^ 62) ≤ b₀) (hb' : b₀ < 2 ^ 62) (hle : b₀ = a₀ + 1)
    (turn : ∀ t h tk q, (∀ p ∈ news, p.1 ≠ q.1) → Fr h₀ env.locals h (fun y => if y = x then some (.int a₀ t) else m₀ y) → News h₀ env.locals h (q :: news) →
      wpAny (model prog w) A (execs body env) (TurnEnd h₀ env.locals q (fun m nx => nx = news ∧ ∀ h' tk', Fr h₀ env.locals h' m → News h₀ env.locals h' news → Q .next { s with heap := h', toks := tk' }) { s with heap := h, toks := tk } Q) E { s with heap := h, toks := tk }) :
    wpAny (model prog w) A (pyIter (.ref r)) (fun it s₂ => LoopAtV prog w A h₀ env x body Q E it s₂) E s := by
  subst hle
  refine loopUp (fun i m nx => match i with
    | 0 => m = m₀ ∧ nx = news
    | _ => nx = news ∧ ∀ h' tk', Fr h₀ env.locals h' m → News h₀ env.locals h' news → Q .next { s with heap := h', toks := tk' }) hh F N hr ha ha' hb hb' ⟨rfl, rfl⟩ ?_ ?_
  · intro i t m₁ news₁ h tk q hi hJ hn F₁ N₁
    have : i = 0 := by omega
    subst this
    obtain ⟨rfl, rfl⟩ := hJ
    rw [show a₀ + ((0 : Nat) : Int) = a₀ by omega] at F₁
    exact turn t h tk q hn F₁ N₁
  · intro m₁ news₁ h tk hJ F₁ N₁
    rw [show (a₀ + 1 - a₀).toNat = 1 by omega] at hJ
    obtain ⟨rfl, k⟩ := hJ
    exact k h tk F₁ N₁
/-- the frame's map with some names told -/
theorem fr_tell {L : Addr} {h : Heap} {m : Str → Option Value} {v : Value} (ps : List (Str × Value)) (hp : ∀ p ∈ ps, p.1 ≠ x → m p.1 = some p.2) (F : Fr h₀ L h (fun y => if y = x then some v else m y)) : Fr h₀ L h (fun y => if y = x then some v else kstB m ps y) := by
  have e : (fun y => if y = x then some v else kstB m ps y) = fun y => if y = x then some v else m y := by
    funext y
    by_cases hy : y = x
    · rw [if_pos hy, if_pos hy]
    · rw [if_neg hy, if_neg hy]
      clear F
      induction ps with
      | nil => rfl
      | cons p r ih =>
        show (if y = p.1 then some p.2 else kstB m r y) = m y
        by_cases e : y = p.1
        · rw [if_pos e, e]; exact (hp p (.head _) (e ▸ hy)).symm
        · rw [if_neg e]; exact ih fun q hq => hp q (.tail _ hq)
  rw [e]; exact F
theorem fr_told {L : Addr} {h : Heap} {m : Str → Option Value} (ps : List (Str × Value)) (hp : ∀ p ∈ ps, m p.1 = some p.2) (F : Fr h₀ L h m) : Fr h₀ L h (kstB m ps) := by
  have e : kstB m ps = m := by
    funext y
    clear F
    induction ps with
    | nil => rfl
    | cons p r ih =>
      show (if y = p.1 then some p.2 else kstB m r y) = m y
      by_cases e : y = p.1
      · rw [if_pos e, e]; exact (hp p (.head _)).symm
      · rw [if_neg e]; exact ih fun q hq => hp q (.tail _ hq)
  rw [e]; exact F
end
end Mine
end
section
open PySem PySem.W PySem.Spec PySem.Calls PyProof.Rows
namespace Mine
section
variable {prog : Program} {w : World} {A : Around} {s : Shared} {env : Env} {h₀ : Heap}
/-- the end of a turn, the generators free -/
noncomputable def TurnG (h₀ : Heap) (L : Addr) (q : Addr × Obj) (J : (Str → Option Value) → Led → Array GenState → Prop) (s₁ : Shared) (Q : Flow → Shared → Prop) (f : Flow) (s₂ : Shared) : Prop :=
  match f with
  | .ret v => Q (.ret v) s₂
  | .brk => Q .next s₂
  | _ => ∃ h' tk gs m' news', s₂ = { s₁ with heap := h', gens := gs, toks := tk } ∧ Fr h₀ L h' m' ∧ News h₀ L h' (q :: news') ∧ (∀ p ∈ news', p.1 ≠ q.1) ∧ J m' news' gs
noncomputable def LoopG (prog : Program) (w : World) (A : Around) (h₀ : Heap) (env : Env) (x : Str) (body orelse : List Stmt) (Q : Flow → Shared → Prop) (E : Value → Shared → Prop) (it : Value) (s₂ : Shared) : Prop :=
  ∃ (I : Addr) (n : Nat) (P : Nat → Value → Prop) (St : Nat → Heap → Prop) (m : Str → Option Value) (news : Led) (J : Nat → (Str → Option Value) → Led → Array GenState → Prop),
    it = .ref I ∧ Walks prog w A I [I] [I] n P St ∧ (∀ i h, St i h → ∃ o, h.get? I = some o) ∧ env.locals ≠ I ∧ h₀.get? I = none ∧ (∀ p ∈ news, p.1 ≠ I) ∧ St 0 s₂.heap ∧ Fr h₀ env.locals s₂.heap m ∧ News h₀ env.locals s₂.heap news ∧ J 0 m news s₂.gens ∧
    (∀ i v m₁ news₁ h tk gs q, i < n → P i v → J i m₁ news₁ gs → (∀ p ∈ news₁, p.1 ≠ q.1) → Fr h₀ env.locals h (fun y => if y = x then some v else m₁ y) → News h₀ env.locals h (q :: news₁) →
      wpAny (model prog w) A (execs body env) (TurnG h₀ env.locals q (J (i + 1)) { s₂ with heap := h, gens := gs, toks := tk } Q) E { s₂ with heap := h, gens := gs, toks := tk }) ∧
    ∀ m₁ news₁ h tk gs, J n m₁ news₁ gs → Fr h₀ env.locals h m₁ → News h₀ env.locals h news₁ → wpAny (model prog w) A (execs orelse env) Q E { s₂ with heap := h, gens := gs, toks := tk }
/-- a loop whose target may be a cell: the store is the turn's first step -/
noncomputable def LoopS (prog : Program) (w : World) (A : Around) (h₀ : Heap) (env : Env) (x : Str) (body orelse : List Stmt) (Q : Flow → Shared → Prop) (E : Value → Shared → Prop) (it : Value) (s₂ : Shared) : Prop :=
  ∃ (I : Addr) (n : Nat) (P : Nat → Value → Prop) (St : Nat → Heap → Prop) (m : Str → Option Value) (news : Led) (J : Nat → (Str → Option Value) → Led → Array GenState → Prop),
    it = .ref I ∧ Walks prog w A I [I] [I] n P St ∧ (∀ i h, St i h → ∃ o, h.get? I = some o) ∧ env.locals ≠ I ∧ h₀.get? I = none ∧ (∀ p ∈ news, p.1 ≠ I) ∧ St 0 s₂.heap ∧ Fr h₀ env.locals s₂.heap m ∧ News h₀ env.locals s₂.heap news ∧ J 0 m news s₂.gens ∧
    (∀ i v m₁ news₁ h tk gs q, i < n → P i v → J i m₁ news₁ gs → (∀ p ∈ news₁, p.1 ≠ q.1) → Fr h₀ env.locals h m₁ → News h₀ env.locals h (q :: news₁) →
      wpAny (model prog w) A (storeName env x v) (fun _ s' => wpAny (model prog w) A (execs body env) (TurnG h₀ env.locals q (J (i + 1)) { s₂ with heap := h, gens := gs, toks := tk } Q) E s') E { s₂ with heap := h, gens := gs, toks := tk }) ∧
    ∀ m₁ news₁ h tk gs, J n m₁ news₁ gs → Fr h₀ env.locals h m₁ → News h₀ env.locals h news₁ → wpAny (model prog w) A (execs orelse env) Q E { s₂ with heap := h, gens := gs, toks := tk }
/-- what stays when the iterator alone has moved -/
theorem off_iter {h h' : Heap} {L I : Addr} {m : Str → Option Value} {news : Led} (hL : L ≠ I) (hI0 : h₀.get? I = none) (off : ∀ p ∈ news, p.1 ≠ I) (F : Fr h₀ L h m) (N : News h₀ L h news) (hk : ∀ b o, b ∉ [I] → h.get? b = some o → h'.get? b = some o) :
    Fr h₀ L h' m ∧ News h₀ L h' news := by
  have up : ∀ b o, b ≠ I → h.get? b = some o → h'.get? b = some o := fun b o hb => hk b o fun q => hb (List.mem_singleton.mp q)
  refine ⟨⟨F.ns.at' fun o => up L o hL, fun b o e => up b o ?_ (F.keep b o e), F.above⟩, fun p hp => ⟨up _ _ (off p hp) (N p hp).1, (N p hp).2⟩⟩
  rintro rfl
  exact nomatch hI0.symm.trans e
/-- ahead of a turn: so many are left -/
noncomputable def Ahead (h₀ : Heap) (L I : Addr) (n : Nat) (St : Nat → Heap → Prop) (J : Nat → (Str → Option Value) → Led → Array GenState → Prop) (s : Shared) (left : Nat) (s' : Shared) : Prop :=
  ∃ i h' tk gs m' news', i + left = n ∧ s' = { s with heap := h', gens := gs, toks := tk } ∧ St i h' ∧ Fr h₀ L h' m' ∧ News h₀ L h' news' ∧ (∀ p ∈ news', p.1 ≠ I) ∧ J i m' news' gs
theorem codeAny_forS {E : Value → Shared → Prop} {Q : Flow → Shared → Prop} {x : Str} {px : Pos} {body orelse : List Stmt} {it : Value} (hE : PassesOwn (model prog w) A env E)
    (H : LoopS prog w A h₀ env x body orelse Q E it s) :
    codeAny (model prog w) A (.forLoop (.Name x px) it body orelse env) (fun r s' => match r with | .ok f => Q f s' | .error e => cameBackBy (model prog w) A env E e s') s := by
  obtain ⟨I, n, P, St, m, news, J, rfl, W, hI, hL, hI0, hnw, hst, F, N, h0, turn, fin⟩ := H
  refine codeAny_forLoop (Ahead h₀ env.locals I n St J s) ?_ n ⟨0, s.heap, s.toks, s.gens, m, news, Nat.zero_add n, rfl, hst, F, N, hnw, h0⟩
  rintro left _ ⟨i, h', tk, gs, m', news', hi, rfl, st, F', N', off, j⟩
  cases left with
  | zero =>
    subst hi
    refine W.done _ _ _ st fun h₁ tk₁ hk => wpAny_passesOwn hE ?_
    exact (off_iter hL hI0 off F' N' hk).elim (fin m' news' h₁ tk₁ gs j)
  | succ left =>
    refine W.item i _ _ _ (by omega) st fun v h₁ tk₁ hv st₁ hk => wpAny_assign_Name ?_
    obtain ⟨F₁, N₁⟩ := off_iter hL hI0 off F' N' hk
    obtain ⟨oI, ho⟩ := hI _ _ st₁
    have N₂ : News h₀ env.locals h₁ ((I, oI) :: news') := fun p hp => (List.mem_cons.mp hp).elim (fun e => e ▸ ⟨ho, hL.symm, hI0⟩) (N₁ p)
    refine wpAny_mono (wpAny_passesOwn hE (turn i v m' news' h₁ tk₁ gs (I, oI) (by omega) hv j off F₁ N₂)) (fun _ s₂ rest => wpAny_mono (wpAny_passesOwn hE rest) (fun f s₃ e => ?_) fun _ _ e => e) fun _ _ e => e
    have goesOn : TurnG h₀ env.locals (I, oI) (J (i + 1)) { s with heap := h₁, gens := gs, toks := tk₁ } Q .next s₃ → ∃ k, k < left + 1 ∧ Ahead h₀ env.locals I n St J s k s₃ := by
      rintro ⟨h'', tk', gs', m'', news'', rfl, F₃, N₃, off₃, j₃⟩
      refine ⟨left, Nat.lt_succ_self _, i + 1, h'', tk', gs', m'', news'', by omega, rfl, W.frame _ _ _ st₁ fun b hb o there => ?_, F₃, fun p hp => N₃ p (.tail _ hp), off₃, j₃⟩
      obtain rfl := List.mem_singleton.mp hb
      exact Option.some.inj (ho.symm.trans there) ▸ (N₃ _ (.head _)).1
    match f, e with
    | .ret _, e => exact e
    | .brk, e => exact e
    | .next, e => exact goesOn e
    | .cont, e => exact goesOn e
/-- a local target: the store is made by the rule -/
theorem LoopG.stored {E : Value → Shared → Prop} {Q : Flow → Shared → Prop} {x : Str} {body orelse : List Stmt} {it : Value} (hx : env.kindOf x = some .local) (hp : (env.scope.kind == .class || (env.scope.kind == .module && env.locals != env.globals)) = false)
    (H : LoopG prog w A h₀ env x body orelse Q E it s) : LoopS prog w A h₀ env x body orelse Q E it s := by
  obtain ⟨I, n, P, St, m, news, J, e, W, hI, hL, hI0, hnw, hst, F, N, h0, turn, fin⟩ := H
  exact ⟨I, n, P, St, m, news, J, e, W, hI, hL, hI0, hnw, hst, F, N, h0, fun i v m₁ news₁ h tk gs q hi hv j off F₁ N₁ =>
    wpAny_storeName_local hx F₁.ns (fun h₂ hn₂ hs₂ => turn i v m₁ news₁ h₂ _ gs q hi hv j off (F₁.set hn₂ hs₂) (N₁.set hs₂)) hp, fin⟩
theorem For_G {E : Value → Shared → Prop} {Q : Flow → Shared → Prop} {x : Str} {px pos : Pos} {iter : Expr} {body orelse : List Stmt} {m : Str → Option Value} (_F : Fr h₀ env.locals s.heap m) (hx : env.kindOf x = some .local)
    (hp : (env.scope.kind == .class || (env.scope.kind == .module && env.locals != env.globals)) = false)
    (h : wpAny (model prog w) A (eval iter env) (fun xv s₁ => wpAny (model prog w) A (pyIter xv) (fun it s₂ => LoopG prog w A h₀ env x body orelse Q E it s₂) E s₁) E s)
    (hs : ∀ x, foldedSetIterable iter env x = pure x := by intro _; rfl)
    (hE : PassesOwn (model prog w) A env E := by passes_own) :
    wpAny (model prog w) A (exec (.For (.Name x px) iter body orelse pos) env) Q E s :=
  wpAny_For (wpAny_mono h (fun xv s₁ h₁ => wpAny_mono h₁ (fun it s₂ h₂ => codeAny_forS hE (h₂.stored hx hp)) fun _ _ e => e) fun _ _ e => e) hs
theorem upG {E : Value → Shared → Prop} {Q : Flow → Shared → Prop} {x : Str} {body orelse : List Stmt} {r : Addr} {a₀ b₀ : Int} {t₀ u₀ v₀ : Tok} {m₀ : Str → Option Value} {news : Led} (J : Nat → (Str → Option Value) → Led → Array GenState → Prop)
    (hh : A.handled = none) (F : Fr h₀ env.locals s.heap m₀) (N : News h₀ env.locals s.heap news) (hr : IsRange s.heap r a₀ b₀ 1 t₀ u₀ v₀)
    (ha : -(2 ^ 62) ≤ a₀) (ha' : a₀ < 2 ^ 62) (hb : -(2 ^ 62) ≤ b₀) (hb' : b₀ < 2 ^ 62) (hj : J 0 m₀ news s.gens)
    (turn : ∀ (i : Nat) t m₁ news₁ h tk gs q, a₀ + i < b₀ → J i m₁ news₁ gs → (∀ p ∈ news₁, p.1 ≠ q.1) → Fr h₀ env.locals h (fun y => if y = x then some (.int (a₀ + i) t) else m₁ y) → News h₀ env.locals h (q :: news₁) →
      wpAny (model prog w) A (execs body env) (TurnG h₀ env.locals q (J (i + 1)) { s with heap := h, gens := gs, toks := tk } Q) E { s with heap := h, gens := gs, toks := tk })
    (done : ∀ m₁ news₁ h tk gs, J (b₀ - a₀).toNat m₁ news₁ gs → Fr h₀ env.locals h m₁ → News h₀ env.locals h news₁ → wpAny (model prog w) A (execs orelse env) Q E { s with heap := h, gens := gs, toks := tk }) :
    wpAny (model prog w) A (pyIter (.ref r)) (fun it s₂ => LoopG prog w A h₀ env x body orelse Q E it s₂) E s := by
  refine wpAny_pyIter_range hr (small_one ha ha' hb hb') ?_
  have hI0 : h₀.get? s.heap.objs.size = none := by
    cases q : h₀.get? s.heap.objs.size with
    | none => rfl
    | some o => exact absurd (Heap.lt_size (F.keep _ _ q)) (Nat.lt_irrefl _)
  have W : Walks prog w A s.heap.objs.size [s.heap.objs.size] [s.heap.objs.size] (b₀ - a₀).toNat (fun i v => i < (b₀ - a₀).toNat ∧ ∃ t, v = .int (a₀ + i * 1) t)
      (fun i h => IsRangeIter h s.heap.objs.size (a₀ + (i : Nat) * 1) (((b₀ - a₀).toNat : Int) - (i : Nat)) 1) := (Walks.range hh _ a₀ 1 (b₀ - a₀).toNat).bound
  refine ⟨_, _, _, _, m₀, news, J, rfl, W, fun i h hi => ⟨_, hi⟩, fun e => absurd F.ns.lt (by rw [e]; exact Nat.lt_irrefl _), hI0, fun p hp e => absurd (Heap.lt_size (N p hp).1) (by rw [e]; exact Nat.lt_irrefl _),
    by show IsRangeIter _ _ _ _ _; rw [rangeSize_nat a₀ b₀]; simpa using Heap.get?_push_size _ rfl, F.push _, fun p hp => ⟨Heap.get?_push_of_some _ (N p hp).1, (N p hp).2⟩, hj, ?_, ?_⟩
  · rintro i v m₁ news₁ h tk gs q hi ⟨_, u, rfl⟩ hJ hn F₁ N₁
    rw [Int.mul_one] at F₁
    exact turn i u m₁ news₁ h tk gs q (by omega) hJ hn F₁ N₁
  · exact fun m₁ news₁ h tk gs hJ F₁ N₁ => done m₁ news₁ h tk gs hJ F₁ N₁
end
end Mine
end
section
open PySem PySem.W PySem.Spec PySem.Calls PyProof.Rows
set_option maxHeartbeats 4000000
namespace Mine
theorem regA : (fun (_ : OpenLaw) (_ : Params → Frag) => True) PySem.Challenge.rw_sn0085_01 Mine.K := by
  k_fill
  exact trivial

/-! ## the two tables -/
noncomputable def isIntSet (o : Obj) : Bool := o.cls == .type "set" && o.dict.isNone && o.slots.isEmpty && (match o.data with
  | .set es _ t => es.toList.all (fun e => match e.2 with | .int i _ => e.1 == hashInt i | _ => false) && Nat.blt es.size scanBound && t.fits es.size
  | _ => false)
noncomputable def setMem (k : Int) (o : Obj) : Bool := match o.data with
  | .set es _ _ => es.toList.any fun e => Value.isInt k e.2
  | _ => false
theorem setOf_K {prog : Program} {w : World} {K : Frag} {h : Heap} {a : Addr} (X : K.In h) (e : (K.lookup a).any isIntSet = true) : ∃ n, h.SetOf (intKind prog w) a (fun k => (K.lookup a).any (setMem k)) n := by
  cases hl : K.lookup a with
  | none => rw [hl] at e; cases e
  | some o =>
    rw [hl] at e
    have e' : isIntSet o = true := e
    unfold isIntSet at e'
    simp only [Bool.and_eq_true] at e'
    obtain ⟨⟨⟨e1, e2⟩, e3⟩, e4⟩ := e'
    cases hd : o.data with
    | set es ep t =>
      rw [hd] at e4
      simp only [Bool.and_eq_true] at e4
      obtain ⟨⟨e5, e6⟩, e7⟩ := e4
      refine ⟨es.size, o, es, ep, t, X _ _ hl, ⟨eq_of_beq e1, by simpa using e2, by simpa using e3⟩, hd, ?_, ?_, ?_, e7, rfl⟩
      · intro x hx
        have := List.all_eq_true.mp e5 x hx
        cases hv : x.2 with
        | int i t' => rw [hv] at this; exact ⟨⟨i, by simp [intKind, Value.isInt], eq_of_beq this⟩, rfl⟩
        | _ => rw [hv] at this; cases this
      · intro k
        show setMem k o = true ↔ _
        unfold setMem
        rw [hd]
        exact List.any_eq_true
      · exact (Nat.blt_eq).mp e6
    | _ => rw [hd] at e4; cases e4
noncomputable def isIntDict (o : Obj) : Bool := o.cls == .type "dict" && o.dict.isNone && o.slots.isEmpty && (match o.data with
  | .dict es _ => es.toList.all (fun e => match e.key with | .int i _ => e.hash == hashInt i | _ => false)
  | _ => false)
noncomputable def dictVal (k : Int) (o : Obj) : Option Value := match o.data with
  | .dict es _ => (es.toList.find? fun e => Value.isInt k e.key).map (·.val)
  | _ => none
theorem mapOf_Ki {prog : Program} {w : World} {K : Frag} {h : Heap} {a : Addr} (X : K.In h) (e : (K.lookup a).any isIntDict = true) : h.MapOf (intKind prog w) a (fun k => (K.lookup a).bind (dictVal k)) := by
  cases hl : K.lookup a with
  | none => rw [hl] at e; cases e
  | some o =>
    rw [hl] at e
    have e' : isIntDict o = true := e
    unfold isIntDict at e'
    simp only [Bool.and_eq_true] at e'
    obtain ⟨⟨⟨e1, e2⟩, e3⟩, e4⟩ := e'
    cases hd : o.data with
    | dict es ep =>
      rw [hd] at e4
      refine ⟨o, es, ep, X _ _ hl, ⟨eq_of_beq e1, by simpa using e2, by simpa using e3⟩, hd, ?_, ?_⟩
      · intro x hx
        have := List.all_eq_true.mp e4 x (Array.mem_toList_iff.mpr hx)
        cases hv : x.key with
        | int i t' => rw [hv] at this; exact ⟨i, by simp [intKind, Value.isInt], eq_of_beq this⟩
        | _ => rw [hv] at this; cases this
      · intro k
        show findBy _ _ _ = dictVal k o
        unfold dictVal findBy
        rw [hd]
        show _ = (es.toList.find? _).map _
        rw [← Array.find?_toList]
        rfl
    | _ => rw [hd] at e4; cases e4
theorem b1_is (P : Params) : ((K P).lookup 124).any isIntSet = true := by kernel_rfl
theorem b3_is (P : Params) : ((K P).lookup 135).any isIntDict = true := by kernel_rfl
theorem fl_is (P : Params) : ((K P).lookup 88).any isIntDict = true := by kernel_rfl
noncomputable def b1S (P : Params) (c : Int) : Bool := ((K P).lookup 124).any (setMem c)
noncomputable def b3V (P : Params) (c : Int) : Option Value := ((K P).lookup 135).bind (dictVal c)
noncomputable def flV (P : Params) (c : Int) : Option Value := ((K P).lookup 88).bind (dictVal c)
section
variable {prog : Program} {w : World} {A : Around} {E : Value → Shared → Prop} {s : Shared} {h₀ : Heap} {L : Addr} {m : Str → Option Value}
theorem in_b1K {c : Int} {t : Tok} {Q : Value → Shared → Prop} (F : Fr h₀ L s.heap m) (X : (Mine.K w.params).In h₀) (h : Q (.bool (b1S w.params c)) { s with toks := s.toks + 1 }) :
    wpAny (model prog w) A (compareOp .In (.int c t) (.ref 124)) Q E s := by
  obtain ⟨n, hS⟩ := setOf_K (prog := prog) (w := w) (X.keeps F.keep) (b1_is w.params)
  exact wpAny_inSet_of (intKind_is prog w c t) rfl hS h
theorem getM_K {a : Addr} {pl : Sem Bool} {Q : Value × List Value → Shared → Prop} (F : Fr h₀ L s.heap m) (X : (Mine.K w.params).In h₀) (e : ((Mine.K w.params).lookup a).any isIntDict = true) (h : Q (.builtin "dict.get", [.ref a]) s) :
    wpAny (model prog w) A (getMethod (.ref a) "get" pl) Q E s := by
  have hm := mapOf_Ki (prog := prog) (w := w) (X.keeps F.keep) e
  exact getMethod_builtin hm.typeIs PySem.F.plainAttrs_dict PySem.F.slot_dict_get PySem.F.type_dict_get hm.noDict h
theorem get1_K {a : Addr} {c : Int} {t : Tok} {r : Option Value} {Q : Value → Shared → Prop} (F : Fr h₀ L s.heap m) (X : (Mine.K w.params).In h₀) (e : ((Mine.K w.params).lookup a).any isIntDict = true) (lo : (a == sysModules) = false)
    (hr : ((Mine.K w.params).lookup a).bind (dictVal c) = r) (h : Q (r.getD .none) { s with toks := s.toks + 1 }) : wpAny (model prog w) A (call (.builtin "dict.get") [.ref a, .int c t]) Q E s := by
  have hm := mapOf_Ki (prog := prog) (w := w) (X.keeps F.keep) e
  exact call_meetsIn PySem.F.slot_dict_get hm.typeIs PySem.F.entry_dict_get (PySem.F.args_dict_get_2 _ _) (meets_dict_get _ a (intKind_is prog w c t) lo) ⟨_, hm, by rw [hr]; exact h⟩
theorem get2_K {a : Addr} {c : Int} {t : Tok} {dflt : Value} {r : Option Value} {Q : Value → Shared → Prop} (F : Fr h₀ L s.heap m) (X : (Mine.K w.params).In h₀) (e : ((Mine.K w.params).lookup a).any isIntDict = true) (lo : (a == sysModules) = false)
    (hr : ((Mine.K w.params).lookup a).bind (dictVal c) = r) (h : Q (r.getD dflt) { s with toks := s.toks + 1 }) : wpAny (model prog w) A (call (.builtin "dict.get") [.ref a, .int c t, dflt]) Q E s := by
  have hm := mapOf_Ki (prog := prog) (w := w) (X.keeps F.keep) e
  exact call_meetsIn PySem.F.slot_dict_get hm.typeIs PySem.F.entry_dict_get (PySem.F.args_dict_get_3 _ _ _) (meets_dict_get_default _ a (intKind_is prog w c t) lo dflt) ⟨_, hm, by rw [hr]; exact h⟩
end


theorem b1_spec {w p loose mean mg mb} (c : Nat) (t : Tok) (news : Led) : CallD w p loose mean mg mb 134 1 16 news [.str ⟨#[c]⟩ t] (fun tl r => tl = [] ∧ r = .bool (b1S w.params c)) := by
  k_with_none
  (k_with "compareOp In int ref" => (k_here; (with_reducible show wpAny _ _ (compareOp CmpOp.In (Value.int _ _) (Value.ref 124)) _ _ _); k_dflt (refine' in_b1K ?k1 ?k2 ?_; (case k1 => k_asm); (case k2 => k_asm); k_whole)))
  (k_with "getMethod ref" => (k_here; (with_reducible show wpAny _ _ (getMethod (Value.ref 135) _ _) _ _ _); k_dflt (refine' getM_K ?k1 ?k2 ?k3 ?_; (case k1 => k_asm); (case k2 => k_asm); (case k3 => exact b3_is _); k_whole)))
  (k_with "call builtin:dict.get" => (k_here; (with_reducible show wpAny _ _ (call (Value.builtin "dict.get") [Value.ref 135, Value.int _ _]) _ _ _); k_dflt (refine' get1_K ?k1 ?k2 ?k3 ?k4 ?k5 ?_; (case k1 => k_asm); (case k2 => k_asm); (case k3 => exact b3_is _); (case k4 => exact rfl); (case k5 => assumption); k_whole); (try dsimp only [Option.getD])))
  intro dp un gd cn cs a ccd cl outer A₀ base h₀ L m s Q E B F X N T hk hd hu hret
  refine wpAny_call ?_
  k_dflt ktr_enter
  conv in (occs := *) fnBody _ => all_goals whnf
  conv in (occs := *) fnScope _ => all_goals whnf
  conv in (occs := *) fnArgs _ => all_goals whnf
  k_steps
  exact hret _ [] _ _ (by k_asm) (by k_asm) ord_nil ⟨rfl, rfl⟩

/-- what map_table_b3 makes of a sign -/
noncomputable def Maps (P : Params) (c : Nat) (x : Str) : Prop := (∃ t, b3V P c = some (.str x t)) ∨ (b3V P c = none ∧ ((c = 65 ∧ x = Str.ofString "a") ∨ (c = 100 ∧ x = Str.ofString "d")))
theorem b3_spec {w p loose mean mg mb} (c : Nat) (x : Str) (t : Tok) (hx : Maps w.params c x) (news : Led) : CallD w p loose mean mg mb 180 1 16 news [.str ⟨#[c]⟩ t] (fun tl r => tl = [] ∧ ∃ t, r = .str x t) := by
  k_with_none
  (k_with "compareOp In int ref" => (k_here; (with_reducible show wpAny _ _ (compareOp CmpOp.In (Value.int _ _) (Value.ref 124)) _ _ _); k_dflt (refine' in_b1K ?k1 ?k2 ?_; (case k1 => k_asm); (case k2 => k_asm); k_whole)))
  (k_with "getMethod ref" => (k_here; (with_reducible show wpAny _ _ (getMethod (Value.ref 135) _ _) _ _ _); k_dflt (refine' getM_K ?k1 ?k2 ?k3 ?_; (case k1 => k_asm); (case k2 => k_asm); (case k3 => exact b3_is _); k_whole)))
  (k_with "call builtin:dict.get" => (k_here; (with_reducible show wpAny _ _ (call (Value.builtin "dict.get") [Value.ref 135, Value.int _ _]) _ _ _); k_dflt (refine' get1_K ?k1 ?k2 ?k3 ?k4 ?k5 ?_; (case k1 => k_asm); (case k2 => k_asm); (case k3 => exact b3_is _); (case k4 => exact rfl); (case k5 => assumption); k_whole); (try dsimp only [Option.getD])))
  intro dp un gd cn cs a ccd cl outer A₀ base h₀ L m s Q E B F X N T hk hd hu hret
  rcases hx with ⟨tx, hx⟩ | ⟨hx, ⟨rfl, rfl⟩ | ⟨rfl, rfl⟩⟩
  · unfold b3V at hx
    refine wpAny_call ?_
    k_dflt ktr_enter
    conv in (occs := *) fnBody _ => all_goals whnf
    conv in (occs := *) fnScope _ => all_goals whnf
    conv in (occs := *) fnArgs _ => all_goals whnf
    k_steps
    exact hret _ [] _ _ (by k_asm) (by k_asm) ord_nil ⟨rfl, _, rfl⟩
  · unfold b3V at hx
    refine wpAny_call ?_
    k_dflt ktr_enter
    conv in (occs := *) fnBody _ => all_goals whnf
    conv in (occs := *) fnScope _ => all_goals whnf
    conv in (occs := *) fnArgs _ => all_goals whnf
    k_steps
    exact hret _ [] _ _ (by k_asm) (by k_asm) ord_nil ⟨rfl, _, rfl⟩
  · unfold b3V at hx
    refine wpAny_call ?_
    k_dflt ktr_enter
    conv in (occs := *) fnBody _ => all_goals whnf
    conv in (occs := *) fnScope _ => all_goals whnf
    conv in (occs := *) fnArgs _ => all_goals whnf
    k_steps
    exact hret _ [] _ _ (by k_asm) (by k_asm) ord_nil ⟨rfl, _, rfl⟩
theorem callD_use {w : World} {p : Program} {loose : List Str} {mean : ExcName → Option Value} {mg mb : Str → Option Value} {f : Addr} {dd uu : Nat} {news : Led} {vs : List Value} {post : Led → Value → Prop}
    {dp un : Nat} {gd : Option (List Code)} {cn : Str} {cs : Scope} {a : Addr} {ccd : Value} {cl : List (Str × Addr)} {outer : List Env} {A₀ : Around} {base h₀ : Heap} {L : Addr} {m : Str → Option Value} {s : Shared} {Q E : Value → Shared → Prop}
    (S : CallD w p loose mean mg mb f dd uu news vs post) (B : Below A₀ base outer h₀) (F : Fr h₀ L s.heap m) (X : (Mine.K w.params).In h₀) (N : News h₀ L s.heap news) (T : Top p loose mean mg mb h₀) (hk : cs.kind = .function) (hd : dp + dd < recursionLimit) (hu : un + uu < cLine)
    (k : ∀ r tl h' tk', Fr h₀ L h' m → News h₀ L h' (tl ++ news) → (∀ q ∈ news, ∀ p ∈ tl, q.1 < p.1) → post tl r → Q r { s with heap := h', toks := tk' }) :
    wpAny (model prog w) (ktrTop dp un gd cn cs L a ccd cl outer) (call (.ref f) vs) Q E s :=
  S dp un gd cn cs a ccd cl outer A₀ base h₀ L m s Q E B F X N T hk hd hu k
end Mine
end
theorem Mine.clean7 : True := by
  k_with_none
  trivial
section
open PySem PySem.W PySem.Spec PySem.Calls PyProof.Rows
namespace Mine
theorem ints_snoc {vs : List Value} {ns : List Int} {x : Int} (h : IntsAre vs (ns ++ [x])) : ∃ us t, vs = us ++ [.int x t] ∧ IntsAre us ns := by
  induction ns generalizing vs with
  | nil =>
    obtain ⟨t, vs', rfl, h'⟩ := IntsAre.cons_inv h
    cases h'.nil_inv
    exact ⟨[], t, rfl, .nil⟩
  | cons n ns ih =>
    obtain ⟨t, vs', rfl, h'⟩ := IntsAre.cons_inv h
    obtain ⟨us, t', rfl, hu⟩ := ih h'
    exact ⟨.int n t :: us, t', rfl, .cons _ _ hu⟩
theorem dat_of_ints {L : Led} {vs : List Value} {ns : List Int} (h : IntsAre vs ns) : DatAll L vs (ns.map Dat.int) := by
  induction h with
  | nil => exact .nil
  | cons n t _ ih => exact .cons (.int _ _) ih
theorem ints_of_dat {L : Led} : ∀ {vs : List Value} {ns : List Int}, DatAll L vs (ns.map Dat.int) → IntsAre vs ns
  | _, [], h => by cases h; exact .nil
  | _, n :: ns, h => by
    cases h with
    | cons h1 h2 => cases h1; exact .cons _ _ (ints_of_dat h2)
section
variable {prog : Program} {w : World} {A : Around} {E : Value → Shared → Prop} {s : Shared} {h₀ : Heap} {L a b : Addr} {m : Str → Option Value} {news : Led}
open Classical in
theorem ints_ne {xs : List Value} {ns : List Int} {ys : List Value} {ms : List Int} {ka kb : Nat} {Q : Value → Shared → Prop} (N : News h₀ L s.heap news) (ma : (a, listOf xs.toArray ka) ∈ news) (hi : IntsAre xs ns) (mb : (b, listOf ys.toArray kb) ∈ news) (hj : IntsAre ys ms) (hu : A.units + 64 < cLine)
    (h : Q (.bool (!decide (ns = ms))) s) : wpAny (model prog w) A (compareOp .NotEq (.ref a) (.ref b)) Q E s := by
  refine kqd_ne N ma rfl rfl (dat_of_ints (L := []) hi) (fun _ h => nomatch h) mb rfl rfl (dat_of_ints (L := []) hj) (fun _ h => nomatch h) ?_ ?_ hu ?_
  · intro d hd; obtain ⟨x, _, rfl⟩ := List.mem_map.mp hd; rfl
  · intro d hd; obtain ⟨x, _, rfl⟩ := List.mem_map.mp hd; rfl
  · have e : (ns.map Dat.int = ms.map Dat.int) ↔ ns = ms := ⟨fun q => by
      have := congrArg (List.map fun d => match d with | Dat.int i => i | _ => 0) q
      simpa [List.map_map, Function.comp_def] using this, fun q => by rw [q]⟩
    rw [decide_eq_decide.mpr e]; exact h
open Classical in
theorem ints_eq {xs : List Value} {ns : List Int} {ys : List Value} {ms : List Int} {ka kb : Nat} {Q : Value → Shared → Prop} (N : News h₀ L s.heap news) (ma : (a, listOf xs.toArray ka) ∈ news) (hi : IntsAre xs ns) (mb : (b, listOf ys.toArray kb) ∈ news) (hj : IntsAre ys ms) (hu : A.units + 64 < cLine)
    (h : Q (.bool (decide (ns = ms))) s) : wpAny (model prog w) A (compareOp .Eq (.ref a) (.ref b)) Q E s := by
  refine kqd_eq N ma rfl rfl (dat_of_ints (L := []) hi) (fun _ h => nomatch h) mb rfl rfl (dat_of_ints (L := []) hj) (fun _ h => nomatch h) ?_ ?_ hu ?_
  · intro d hd; obtain ⟨x, _, rfl⟩ := List.mem_map.mp hd; rfl
  · intro d hd; obtain ⟨x, _, rfl⟩ := List.mem_map.mp hd; rfl
  · have e : (ns.map Dat.int = ms.map Dat.int) ↔ ns = ms := ⟨fun q => by
      have := congrArg (List.map fun d => match d with | Dat.int i => i | _ => 0) q
      simpa [List.map_map, Function.comp_def] using this, fun q => by rw [q]⟩
    rw [decide_eq_decide.mpr e]; exact h
theorem ne_nil_nil {ka kb : Nat} {Q : Value → Shared → Prop} (N : News h₀ L s.heap news) (ma : (a, listOf (List.toArray []) ka) ∈ news) (mb : (b, listOf (List.toArray []) kb) ∈ news) (hu : A.units + 64 < cLine)
    (h : Q (.bool false) s) : wpAny (model prog w) A (compareOp .NotEq (.ref a) (.ref b)) Q E s :=
  ints_ne N ma .nil mb .nil hu (by simpa using h)
theorem ne_nil_snoc {xs : List Value} {ns : List Int} {x : Int} {ka kb : Nat} {Q : Value → Shared → Prop} (hi : IntsAre xs (ns ++ [x])) (N : News h₀ L s.heap news) (ma : (a, listOf xs.toArray ka) ∈ news) (mb : (b, listOf (List.toArray []) kb) ∈ news) (hu : A.units + 64 < cLine)
    (h : Q (.bool true) s) : wpAny (model prog w) A (compareOp .NotEq (.ref a) (.ref b)) Q E s :=
  ints_ne N ma hi mb .nil hu (by simpa using h)
theorem len_ints {vs : List Value} {ns : List Int} {k : Nat} {Q : Value → Shared → Prop} (N : News h₀ L s.heap news) (hm : (a, listOf vs.toArray k) ∈ news) (hi : IntsAre vs ns) (hz : ns.length < 2 ^ 62)
    (h : Q (.int (ns.length : Int) (s.toks + 1)) { s with toks := s.toks + 1 + 1 }) : wpAny (model prog w) A (call (.builtin "len") [.ref a]) Q E s := by
  have e : (ns.map Dat.int).length = ns.length := List.length_map ..
  exact kd_len N hm (dat_of_ints (L := []) hi) (by rw [e]; omega) (by rw [e]; exact h)
end
end Mine
end
section
open PySem PySem.W PySem.Spec PySem.Calls PyProof.Rows
namespace Mine
section
variable {prog : Program} {w : World} {A : Around} {s : Shared} {env : Env} {h₀ : Heap}
theorem For_S {E : Value → Shared → Prop} {Q : Flow → Shared → Prop} {x : Str} {px pos : Pos} {iter : PySem.Expr} {body orelse : List Stmt} {m : Str → Option Value} (_F : Fr h₀ env.locals s.heap m)
    (h : wpAny (model prog w) A (eval iter env) (fun xv s₁ => wpAny (model prog w) A (pyIter xv) (fun it s₂ => LoopS prog w A h₀ env x body orelse Q E it s₂) E s₁) E s)
    (hs : ∀ x, foldedSetIterable iter env x = pure x := by intro _; rfl)
    (hE : PassesOwn (model prog w) A env E := by passes_own) :
    wpAny (model prog w) A (exec (.For (.Name x px) iter body orelse pos) env) Q E s :=
  wpAny_For (wpAny_mono h (fun xv s₁ h₁ => wpAny_mono h₁ (fun it s₂ h₂ => codeAny_forS hE h₂) fun _ _ e => e) fun _ _ e => e) hs
theorem upS {E : Value → Shared → Prop} {Q : Flow → Shared → Prop} {x : Str} {body orelse : List Stmt} {r : Addr} {a₀ b₀ : Int} {t₀ u₀ v₀ : Tok} {m₀ : Str → Option Value} {news : Led} (J : Nat → (Str → Option Value) → Led → Array GenState → Prop)
    (hh : A.handled = none) (F : Fr h₀ env.locals s.heap m₀) (N : News h₀ env.locals s.heap news) (hr : IsRange s.heap r a₀ b₀ 1 t₀ u₀ v₀)
    (ha : -(2 ^ 62) ≤ a₀) (ha' : a₀ < 2 ^ 62) (hb : -(2 ^ 62) ≤ b₀) (hb' : b₀ < 2 ^ 62) (hj : J 0 m₀ news s.gens)
    (turn : ∀ (i : Nat) t m₁ news₁ h tk gs q, a₀ + i < b₀ → J i m₁ news₁ gs → (∀ p ∈ news₁, p.1 ≠ q.1) → Fr h₀ env.locals h m₁ → News h₀ env.locals h (q :: news₁) →
      wpAny (model prog w) A (storeName env x (.int (a₀ + i) t)) (fun _ s' => wpAny (model prog w) A (execs body env) (TurnG h₀ env.locals q (J (i + 1)) { s with heap := h, gens := gs, toks := tk } Q) E s') E { s with heap := h, gens := gs, toks := tk })
    (done : ∀ m₁ news₁ h tk gs, J (b₀ - a₀).toNat m₁ news₁ gs → Fr h₀ env.locals h m₁ → News h₀ env.locals h news₁ → wpAny (model prog w) A (execs orelse env) Q E { s with heap := h, gens := gs, toks := tk }) :
    wpAny (model prog w) A (pyIter (.ref r)) (fun it s₂ => LoopS prog w A h₀ env x body orelse Q E it s₂) E s := by
  refine wpAny_pyIter_range hr (small_one ha ha' hb hb') ?_
  have hI0 : h₀.get? s.heap.objs.size = none := by
    cases q : h₀.get? s.heap.objs.size with
    | none => rfl
    | some o => exact absurd (Heap.lt_size (F.keep _ _ q)) (Nat.lt_irrefl _)
  have W : Walks prog w A s.heap.objs.size [s.heap.objs.size] [s.heap.objs.size] (b₀ - a₀).toNat (fun i v => i < (b₀ - a₀).toNat ∧ ∃ t, v = .int (a₀ + i * 1) t)
      (fun i h => IsRangeIter h s.heap.objs.size (a₀ + (i : Nat) * 1) (((b₀ - a₀).toNat : Int) - (i : Nat)) 1) := (Walks.range hh _ a₀ 1 (b₀ - a₀).toNat).bound
  refine ⟨_, _, _, _, m₀, news, J, rfl, W, fun i h hi => ⟨_, hi⟩, fun e => absurd F.ns.lt (by rw [e]; exact Nat.lt_irrefl _), hI0, fun p hp e => absurd (Heap.lt_size (N p hp).1) (by rw [e]; exact Nat.lt_irrefl _),
    by show IsRangeIter _ _ _ _ _; rw [rangeSize_nat a₀ b₀]; simpa using Heap.get?_push_size _ rfl, F.push _, fun p hp => ⟨Heap.get?_push_of_some _ (N p hp).1, (N p hp).2⟩, hj, ?_, ?_⟩
  · rintro i v m₁ news₁ h tk gs q hi ⟨_, u, rfl⟩ hJ hn F₁ N₁
    rw [Int.mul_one]
    exact turn i u m₁ news₁ h tk gs q (by omega) hJ hn F₁ N₁
  · exact fun m₁ news₁ h tk gs hJ F₁ N₁ => done m₁ news₁ h tk gs hJ F₁ N₁
end
/-! ## a comprehension by an invariant (the library's CompRest, proved by counting down) -/
section
variable {prog : Program} {w : World} {A : Around} {h₀ : Heap} {L : Addr} {m : Str → Option Value} {env : Env}
theorem comp_rest {elt : PySem.Expr} {x : Str} {scope : Scope} {cl : List (Str × Addr)} {s : Shared} {S : Led → Prop} {P : Nat → Value → Prop} {Fin : List Value → Led → Prop} {n : Nat} (J : Nat → List Value → Led → Prop)
    (turn : ∀ i ys news v I oI C oC D m₂ h tk (E' : Value → Shared → Prop), i < n → J i ys news → P i v → LCg.NsObj oC m₂ → m₂ x = some v → Fr h₀ L h m → News h₀ L h ((I, oI) :: (C, oC) :: (D, LCg.lst ys) :: news) → LCg.Off3 I C D news → ((@Ne Nat I C) ∧ (@Ne Nat I D) ∧ (@Ne Nat C D)) →
      wpAny (model prog w) A (eval elt (compEnvC scope cl C env)) (LCg.CompEnd h₀ L m { s with heap := h, toks := tk } I oI C oC D (LCg.lst ys) S (fun y news' => J (i + 1) (ys ++ [y]) news')) E' { s with heap := h, toks := tk })
    (done : ∀ ys news, J n ys news → Fin ys news) : ∀ (k i : Nat) (ys : List Value) (news : Led), i + k = n → J i ys news → LCg.CompRest prog w A h₀ L m env elt x scope cl s S P Fin k i ys news
  | 0, i, ys, news, h, hJ => by
    have : i = n := by omega
    subst this
    exact LCg.CompRest.zero (done ys news hJ)
  | k + 1, i, ys, news, h, hJ => by
    refine LCg.CompRest.succ fun v I oI C oC D m₂ hp tk E' hP hC hx F N off ne => ?_
    refine wpAny_mono (turn i ys news v I oI C oC D m₂ hp tk E' (by omega) hJ hP hC hx F N off ne) (fun y s₂ q => ?_) fun _ _ e => e
    obtain ⟨h', tk', news', rfl, F', N', o', hS', hJ'⟩ := q
    exact ⟨h', tk', news', rfl, F', N', o', hS', comp_rest J turn done k (i + 1) (ys ++ [y]) news' (by omega) hJ'⟩
end
section
variable {prog : Program} {w : World} {A : Around} {h₀ : Heap} {L : Addr} {m : Str → Option Value} {env : Env}
/-- the end of an element -/
noncomputable def CompT (h₀ : Heap) (L : Addr) (m : Str → Option Value) (s₁ : Shared) (q1 q2 q3 : Addr × Obj) (news : Led) (J : Value → Led → Prop) (y : Value) (s₂ : Shared) : Prop :=
  ∃ h' tk tl, s₂ = { s₁ with heap := h', toks := tk } ∧ Fr h₀ L h' m ∧ News h₀ L h' (q1 :: q2 :: q3 :: (tl ++ news)) ∧ (∀ p ∈ tl, p.1 ≠ q1.1 ∧ p.1 ≠ q2.1 ∧ p.1 ≠ q3.1) ∧ J y tl
theorem comp_core {elt : PySem.Expr} {x : Str} {scope : Scope} {cl : List (Str × Addr)} {s₁ : Shared} {S : Led → Prop} {P : Nat → Value → Prop} {Fin : List Value → Led → Prop} {n : Nat} {news : Led} (J : Nat → List Value → Led → Prop) (hS : ∀ tl, S (tl ++ news)) (h0 : J 0 [] [])
    (turn : ∀ i ys tl v I oI C oC D m₂ h tk (E' : Value → Shared → Prop), i < n → P i v → J i ys tl → LCg.NsObj oC m₂ → m₂ x = some v → Fr h₀ L h m → News h₀ L h ((I, oI) :: (C, oC) :: (D, LCg.lst ys) :: (tl ++ news)) → (∀ p ∈ tl ++ news, p.1 ≠ I ∧ p.1 ≠ C ∧ p.1 ≠ D) → ((@Ne Nat I C) ∧ (@Ne Nat I D) ∧ (@Ne Nat C D)) →
      wpAny (model prog w) A (eval elt (compEnvC scope cl C env)) (CompT h₀ L m { s₁ with heap := h, toks := tk } (I, oI) (C, oC) (D, LCg.lst ys) news (fun y tl' => J (i + 1) (ys ++ [y]) tl')) E' { s₁ with heap := h, toks := tk })
    (done : ∀ ys tl, J n ys tl → Fin ys (tl ++ news)) :
    LCg.CompRest prog w A h₀ L m env elt x scope cl s₁ S P Fin n 0 [] news := by
  refine comp_rest (fun i ys nx => ∃ tl, nx = tl ++ news ∧ J i ys tl) ?_ ?_ n 0 [] news (Nat.zero_add _) ⟨[], rfl, h0⟩
  · rintro i ys _ v I oI C oC D m₂ h tk E' hi ⟨tl, rfl, hJ⟩ hP hC hx F N off ne
    refine wpAny_mono (turn i ys tl v I oI C oC D m₂ h tk E' hi hP hJ hC hx F N (fun p hp => off.mem p hp) ne) (fun y s₂ q => ?_) fun _ _ e => e
    obtain ⟨h', tk', tl', rfl, F', N', o', hJ'⟩ := q
    refine ⟨h', tk', tl' ++ news, rfl, F', N', LCg.Off3.of fun p hp => ?_, hS tl', tl', rfl, hJ'⟩
    rcases List.mem_append.mp hp with hp | hp
    · exact o' p hp
    · exact off.mem p (List.mem_append.mpr (.inr hp))
  · rintro ys _ ⟨tl, rfl, hJ⟩
    exact done ys tl hJ
theorem comp_led {elt : PySem.Expr} {x : Str} {scope : Scope} {cl : List (Str × Addr)} {s₁ : Shared} {Fin : Shared → List Value → Led → Prop} {ax : Addr} {its : List Value} {k : Nat} {news : Led} (J : Nat → List Value → Led → Prop)
    (hh : A.handled = none) (F : Fr h₀ L s₁.heap m) (N : News h₀ L s₁.heap news) (hm : (ax, listOf its.toArray k) ∈ news) (hsz : its.length ≤ sizeLine) (h0 : J 0 [] [])
    (turn : ∀ i ys tl v I oI C oC D m₂ h tk (E' : Value → Shared → Prop), its[i]? = some v → J i ys tl → LCg.NsObj oC m₂ → m₂ x = some v → Fr h₀ L h m → News h₀ L h ((I, oI) :: (C, oC) :: (D, LCg.lst ys) :: (tl ++ news)) → (∀ p ∈ tl ++ news, p.1 ≠ I ∧ p.1 ≠ C ∧ p.1 ≠ D) → ((@Ne Nat I C) ∧ (@Ne Nat I D) ∧ (@Ne Nat C D)) →
      wpAny (model prog w) A (eval elt (compEnvC scope cl C env)) (CompT h₀ L m { s₁ with heap := h, toks := tk } (I, oI) (C, oC) (D, LCg.lst ys) news (fun y tl' => J (i + 1) (ys ++ [y]) tl')) E' { s₁ with heap := h, toks := tk })
    (done : ∀ g ys tl, J its.length ys tl → Fin { s₁ with heap := g } ys (tl ++ news)) :
    LCg.CompSrc prog w A h₀ L m env elt x scope cl Fin (.ref ax) s₁ := by
  refine LCg.CompSrc.ledger hh F N hm (by rw [List.size_toArray]; exact hsz) fun g => ?_
  refine comp_core J (fun tl => .inr ⟨_, List.mem_append.mpr (.inr hm), rfl, _, rfl⟩) h0 (fun i ys tl v I oI C oC D m₂ h tk E' hi hP => ?_) (fun ys tl hJ => done g ys tl (by rw [← List.size_toArray]; exact hJ))
  exact turn i ys tl v I oI C oC D m₂ h tk E' (by rw [← hP, List.getElem?_toArray])
theorem comp_up {elt : PySem.Expr} {x : Str} {scope : Scope} {cl : List (Str × Addr)} {s₁ : Shared} {Fin : Shared → List Value → Led → Prop} {r : Addr} {b : Nat} {t u v₀ : Tok} {news : Led} (J : Nat → List Value → Led → Prop)
    (hh : A.handled = none) (F : Fr h₀ L s₁.heap m) (N : News h₀ L s₁.heap news) (hr : IsRange s₁.heap r 0 b 1 t u v₀) (hsz : b ≤ 1000) (h0 : J 0 [] [])
    (turn : ∀ i ys tl t I oI C oC D m₂ h tk (E' : Value → Shared → Prop), i < b → J i ys tl → LCg.NsObj oC m₂ → m₂ x = some (.int (i : Nat) t) → Fr h₀ L h m → News h₀ L h ((I, oI) :: (C, oC) :: (D, LCg.lst ys) :: (tl ++ news)) → (∀ p ∈ tl ++ news, p.1 ≠ I ∧ p.1 ≠ C ∧ p.1 ≠ D) → ((@Ne Nat I C) ∧ (@Ne Nat I D) ∧ (@Ne Nat C D)) →
      wpAny (model prog w) A (eval elt (compEnvC scope cl C env)) (CompT h₀ L m { s₁ with heap := h, toks := tk } (I, oI) (C, oC) (D, LCg.lst ys) news (fun y tl' => J (i + 1) (ys ++ [y]) tl')) E' { s₁ with heap := h, toks := tk })
    (done : ∀ g ys tl, J b ys tl → Fin { s₁ with heap := g } ys (tl ++ news)) :
    LCg.CompSrc prog w A h₀ L m env elt x scope cl Fin (.ref r) s₁ := by
  refine LCg.CompSrc.range (n := b) hh F N hr (small_one (by decide) (by decide) (by omega) (by omega)) (by rw [rangeSize_nat]; congr 1) (by rw [sizeLine_eq]; omega) fun g => ?_
  refine comp_core J (fun tl => trivial) h0 (fun i ys tl v I oI C oC D m₂ h tk E' hi hP hJ hC hx => ?_) (fun ys tl hJ => done g ys tl hJ)
  obtain ⟨t', rfl⟩ := hP
  rw [Int.zero_add] at hx
  exact turn i ys tl t' I oI C oC D m₂ h tk E' hi hJ hC hx
end
theorem comp_end {h₀ h' : Heap} {L : Addr} {m : Str → Option Value} {s₁ : Shared} {q1 q2 q3 : Addr × Obj} {tl tl9 news : Led} {tk : Nat} {J : Value → Led → Prop} {y : Value} (F : Fr h₀ L h' m) (N : News h₀ L h' (tl9 ++ q1 :: q2 :: q3 :: (tl ++ news))) (o9 : ∀ q ∈ q1 :: q2 :: q3 :: (tl ++ news), ∀ p ∈ tl9, @LT.lt Nat _ q.1 p.1)
    (off : ∀ p ∈ tl ++ news, p.1 ≠ q1.1 ∧ p.1 ≠ q2.1 ∧ p.1 ≠ q3.1) (hJ : J y (tl9 ++ tl)) : CompT h₀ L m s₁ q1 q2 q3 news J y { s₁ with heap := h', toks := tk } := by
  refine ⟨h', tk, tl9 ++ tl, rfl, F, fun p hp => ?_, fun p hp => ?_, hJ⟩
  · rcases List.mem_cons.mp hp with rfl | hp
    · exact N _ (List.mem_append.mpr (.inr (.head _)))
    rcases List.mem_cons.mp hp with rfl | hp
    · exact N _ (List.mem_append.mpr (.inr (.tail _ (.head _))))
    rcases List.mem_cons.mp hp with rfl | hp
    · exact N _ (List.mem_append.mpr (.inr (.tail _ (.tail _ (.head _)))))
    rw [List.append_assoc] at hp
    rcases List.mem_append.mp hp with hp | hp
    · exact N _ (List.mem_append.mpr (.inl hp))
    · exact N _ (List.mem_append.mpr (.inr (.tail _ (.tail _ (.tail _ hp)))))
  · rcases List.mem_append.mp hp with hp | hp
    · exact ⟨Nat.ne_of_gt (o9 q1 (.head _) p hp), Nat.ne_of_gt (o9 q2 (.tail _ (.head _)) p hp), Nat.ne_of_gt (o9 q3 (.tail _ (.tail _ (.head _))) p hp)⟩
    · exact off p (List.mem_append.mpr (.inl hp))
theorem kst_one {m : Str → Option Value} {x : Str} {v : Value} (h : m x = some v) (y : Str) : (if y = x then some v else m y) = m y := by
  by_cases e : y = x
  · rw [if_pos e, e, h]
  · rw [if_neg e]
theorem off1_mem {D : Addr} : ∀ {l : Led}, LCg.Off1 D l → ∀ p ∈ l, p.1 ≠ D
  | [], _, _, h => nomatch h
  | _ :: _, o, p, h => by
    rcases List.mem_cons.mp h with e | h
    · rw [e]; exact o.1
    · exact off1_mem o.2 p h
/-! ## a comprehension with a test -/
section
variable {prog : Program} {w : World} {A : Around} {h₀ : Heap} {L : Addr} {m : Str → Option Value} {env : Env}
theorem compT_rest {ct elt : PySem.Expr} {x : Str} {scope : Scope} {cl : List (Str × Addr)} {s : Shared} {S : Led → Prop} {P : Nat → Value → Prop} {Fin : List Value → Led → Prop} {n : Nat} (J : Nat → List Value → Led → Prop)
    (turn : ∀ i ys news v I oI C oC D m₂ h tk (E' : Value → Shared → Prop), i < n → J i ys news → P i v → LCg.NsObj oC m₂ → m₂ x = some v → Fr h₀ L h m → News h₀ L h ((I, oI) :: (C, oC) :: (D, LCg.lst ys) :: news) → LCg.Off3 I C D news → ((@Ne Nat I C) ∧ (@Ne Nat I D) ∧ (@Ne Nat C D)) →
      wpAny (model prog w) A (isTrue ct (compEnvC scope cl C env) (eval ct (compEnvC scope cl C env))) (fun ok s' => if ok = true then
        wpAny (model prog w) A (eval elt (compEnvC scope cl C env)) (LCg.CompEnd h₀ L m { s with heap := h, toks := tk } I oI C oC D (LCg.lst ys) S (fun y news' => J (i + 1) (ys ++ [y]) news')) E' s'
        else LCg.CompEnd h₀ L m { s with heap := h, toks := tk } I oI C oC D (LCg.lst ys) S (fun _ news' => J (i + 1) ys news') Value.none s') E' { s with heap := h, toks := tk })
    (done : ∀ ys news, J n ys news → Fin ys news) : ∀ (k i : Nat) (ys : List Value) (news : Led), i + k = n → J i ys news → LCt.CompRestT prog w A h₀ L m env ct elt x scope cl s S P Fin k i ys news
  | 0, i, ys, news, h, hJ => by
    have : i = n := by omega
    subst this
    exact LCt.CompRestT.zero (done ys news hJ)
  | k + 1, i, ys, news, h, hJ => by
    refine LCt.CompRestT.succ fun v I oI C oC D m₂ hp tk E' hP hC hx F N off ne => ?_
    refine wpAny_mono (turn i ys news v I oI C oC D m₂ hp tk E' (by omega) hJ hP hC hx F N off ne) (fun ok s' q => ?_) fun _ _ e => e
    by_cases hok : ok = true
    · rw [if_pos hok] at q ⊢
      refine wpAny_mono q (fun y s₂ q => ?_) fun _ _ e => e
      obtain ⟨h', tk', news', rfl, F', N', o', hS', hJ'⟩ := q
      exact ⟨h', tk', news', rfl, F', N', o', hS', compT_rest J turn done k (i + 1) (ys ++ [y]) news' (by omega) hJ'⟩
    · rw [if_neg hok] at q ⊢
      obtain ⟨h', tk', news', rfl, F', N', o', hS', hJ'⟩ := q
      exact ⟨h', tk', news', rfl, F', N', o', hS', compT_rest J turn done k (i + 1) ys news' (by omega) hJ'⟩
theorem compT_core {ct elt : PySem.Expr} {x : Str} {scope : Scope} {cl : List (Str × Addr)} {s₁ : Shared} {S : Led → Prop} {P : Nat → Value → Prop} {Fin : List Value → Led → Prop} {n : Nat} {news : Led} (J : Nat → List Value → Prop) (hS : S news) (h0 : J 0 [])
    (turn : ∀ i ys v I oI C oC D m₂ h tk (E' : Value → Shared → Prop), i < n → P i v → J i ys → LCg.NsObj oC m₂ → m₂ x = some v → Fr h₀ L h m → News h₀ L h ((I, oI) :: (C, oC) :: (D, LCg.lst ys) :: news) → (∀ p ∈ news, p.1 ≠ I ∧ p.1 ≠ C ∧ p.1 ≠ D) → ((@Ne Nat I C) ∧ (@Ne Nat I D) ∧ (@Ne Nat C D)) →
      wpAny (model prog w) A (isTrue ct (compEnvC scope cl C env) (eval ct (compEnvC scope cl C env))) (fun ok s' => if ok = true then
        wpAny (model prog w) A (eval elt (compEnvC scope cl C env)) (CompT h₀ L m { s₁ with heap := h, toks := tk } (I, oI) (C, oC) (D, LCg.lst ys) news (fun y tl' => tl' = [] ∧ J (i + 1) (ys ++ [y]))) E' s'
        else CompT h₀ L m { s₁ with heap := h, toks := tk } (I, oI) (C, oC) (D, LCg.lst ys) news (fun _ tl' => tl' = [] ∧ J (i + 1) ys) Value.none s') E' { s₁ with heap := h, toks := tk })
    (done : ∀ ys, J n ys → Fin ys news) :
    LCt.CompRestT prog w A h₀ L m env ct elt x scope cl s₁ S P Fin n 0 [] news := by
  refine compT_rest (fun i ys nx => nx = news ∧ J i ys) ?_ ?_ n 0 [] news (Nat.zero_add _) ⟨rfl, h0⟩
  · rintro i ys _ v I oI C oC D m₂ h tk E' hi ⟨rfl, hJ⟩ hP hC hx F N off ne
    refine wpAny_mono (turn i ys v I oI C oC D m₂ h tk E' hi hP hJ hC hx F N (fun p hp => off.mem p hp) ne) (fun ok s' q => ?_) fun _ _ e => e
    by_cases hok : ok = true
    · rw [if_pos hok] at q ⊢
      refine wpAny_mono q (fun y s₂ q => ?_) fun _ _ e => e
      obtain ⟨h', tk', tl', rfl, F', N', o', rfl, hJ'⟩ := q
      exact ⟨h', tk', _, rfl, F', N', off, hS, rfl, hJ'⟩
    · rw [if_neg hok] at q ⊢
      obtain ⟨h', tk', tl', rfl, F', N', o', rfl, hJ'⟩ := q
      exact ⟨h', tk', _, rfl, F', N', off, hS, rfl, hJ'⟩
  · rintro ys _ ⟨rfl, hJ⟩
    exact done ys hJ
theorem compT_led {ct elt : PySem.Expr} {x : Str} {scope : Scope} {cl : List (Str × Addr)} {s₁ : Shared} {Fin : Shared → List Value → Led → Prop} {ax : Addr} {its : List Value} {k : Nat} {news : Led} (J : Nat → List Value → Prop)
    (hh : A.handled = none) (F : Fr h₀ L s₁.heap m) (N : News h₀ L s₁.heap news) (hm : (ax, listOf its.toArray k) ∈ news) (hsz : its.length ≤ sizeLine) (h0 : J 0 [])
    (turn : ∀ i ys v I oI C oC D m₂ h tk (E' : Value → Shared → Prop), its[i]? = some v → J i ys → LCg.NsObj oC m₂ → m₂ x = some v → Fr h₀ L h m → News h₀ L h ((I, oI) :: (C, oC) :: (D, LCg.lst ys) :: news) → (∀ p ∈ news, p.1 ≠ I ∧ p.1 ≠ C ∧ p.1 ≠ D) → ((@Ne Nat I C) ∧ (@Ne Nat I D) ∧ (@Ne Nat C D)) →
      wpAny (model prog w) A (isTrue ct (compEnvC scope cl C env) (eval ct (compEnvC scope cl C env))) (fun ok s' => if ok = true then
        wpAny (model prog w) A (eval elt (compEnvC scope cl C env)) (CompT h₀ L m { s₁ with heap := h, toks := tk } (I, oI) (C, oC) (D, LCg.lst ys) news (fun y tl' => tl' = [] ∧ J (i + 1) (ys ++ [y]))) E' s'
        else CompT h₀ L m { s₁ with heap := h, toks := tk } (I, oI) (C, oC) (D, LCg.lst ys) news (fun _ tl' => tl' = [] ∧ J (i + 1) ys) Value.none s') E' { s₁ with heap := h, toks := tk })
    (done : ∀ g ys, J its.length ys → Fin { s₁ with heap := g } ys news) :
    LCt.CompSrcT prog w A h₀ L m env ct elt x scope cl Fin (.ref ax) s₁ := by
  refine LCt.CompSrcT.ledger hh F N hm (by rw [List.size_toArray]; exact hsz) fun g => ?_
  refine compT_core J (.inr ⟨_, hm, rfl, _, rfl⟩) h0 (fun i ys v I oI C oC D m₂ h tk E' hi hP => ?_) (fun ys hJ => done g ys (by rw [← List.size_toArray]; exact hJ))
  exact turn i ys v I oI C oC D m₂ h tk E' (by rw [← hP, List.getElem?_toArray])
theorem compT_up {ct elt : PySem.Expr} {x : Str} {scope : Scope} {cl : List (Str × Addr)} {s₁ : Shared} {Fin : Shared → List Value → Led → Prop} {r : Addr} {b : Nat} {t u v₀ : Tok} {news : Led} (J : Nat → List Value → Prop)
    (hh : A.handled = none) (F : Fr h₀ L s₁.heap m) (N : News h₀ L s₁.heap news) (hr : IsRange s₁.heap r 0 b 1 t u v₀) (hsz : b ≤ 1000) (h0 : J 0 [])
    (turn : ∀ i ys t I oI C oC D m₂ h tk (E' : Value → Shared → Prop), i < b → J i ys → LCg.NsObj oC m₂ → m₂ x = some (.int (i : Nat) t) → Fr h₀ L h m → News h₀ L h ((I, oI) :: (C, oC) :: (D, LCg.lst ys) :: news) → (∀ p ∈ news, p.1 ≠ I ∧ p.1 ≠ C ∧ p.1 ≠ D) → ((@Ne Nat I C) ∧ (@Ne Nat I D) ∧ (@Ne Nat C D)) →
      wpAny (model prog w) A (isTrue ct (compEnvC scope cl C env) (eval ct (compEnvC scope cl C env))) (fun ok s' => if ok = true then
        wpAny (model prog w) A (eval elt (compEnvC scope cl C env)) (CompT h₀ L m { s₁ with heap := h, toks := tk } (I, oI) (C, oC) (D, LCg.lst ys) news (fun y tl' => tl' = [] ∧ J (i + 1) (ys ++ [y]))) E' s'
        else CompT h₀ L m { s₁ with heap := h, toks := tk } (I, oI) (C, oC) (D, LCg.lst ys) news (fun _ tl' => tl' = [] ∧ J (i + 1) ys) Value.none s') E' { s₁ with heap := h, toks := tk })
    (done : ∀ g ys, J b ys → Fin { s₁ with heap := g } ys news) :
    LCt.CompSrcT prog w A h₀ L m env ct elt x scope cl Fin (.ref r) s₁ := by
  refine LCt.CompSrcT.range (n := b) hh F N hr (small_one (by decide) (by decide) (by omega) (by omega)) (by rw [rangeSize_nat]; congr 1) (by rw [sizeLine_eq]; omega) fun g => ?_
  refine compT_core J trivial h0 (fun i ys v I oI C oC D m₂ h tk E' hi hP hJ hC hx => ?_) (fun ys hJ => done g ys hJ)
  obtain ⟨t', rfl⟩ := hP
  rw [Int.zero_add] at hx
  exact turn i ys t' I oI C oC D m₂ h tk E' hi hJ hC hx
end
end Mine
end
section
open PySem PySem.W PySem.Spec PySem.Calls PyProof.Rows
namespace Mine
section
variable {M : Model} {A : Around} {R : GenEnd} {Y : Protocol} {n : Nat} {s₀ : Shared} {c : Code} {fs : List Frame} {s : Shared} {env : Env}
  {K : Flow → Sem Fin} {H : Value → Sem Fin} {gd : Bool → Bool} {lv : List Value → List Value}
theorem g_exec {st : Stmt} {rest : List Stmt}
    (h : wpAny M (A.over c fs) (exec st env) (fun f s' => f = .next ∧ Seg M A R Y n s₀ c ((execs rest env).wrap K H gd lv) fs s') (fun _ _ => False) s) :
    Seg M A R Y n s₀ c ((execs (st :: rest) env).wrap K H gd lv) fs s := by
  refine seg_execs_cons (seg_wrap (wpAny_mono h (fun f s' p => ?_) fun _ _ x => x.elim))
  obtain ⟨rfl, p⟩ := p
  exact p
theorem g_if {test : PySem.Expr} {body orelse : List Stmt} {pos : Pos}
    (h : wpAny M (A.over c fs) (isTrue test env (eval test env)) (fun b s' => Seg M A R Y n s₀ c ((execs (if b = true then body else orelse) env).wrap K H gd lv) fs s') (fun _ _ => False) s) :
    Seg M A R Y n s₀ c ((exec (.If test body orelse pos) env).wrap K H gd lv) fs s := by
  rw [exec_If]
  refine seg_bind_wrap (wpAny_standAt (seg_bind_wrap (wpAny_mono h (fun b s' p => ?_) fun _ _ x => x.elim)))
  cases b
  · exact p
  · exact p
/-- a loop in a generator's text is a call; of what waits behind it no more is wanted than what it does at a good end -/
theorem g_for {target iter : PySem.Expr} {body orelse : List Stmt} {pos : Pos}
    (h : wpAny M (A.over c fs) (eval iter env) (fun x s₁ => wpAny M (A.over c fs) (pyIter x) (fun it s₂ => ∀ (k : Result → Sem Fin) p, (∀ f, k (.ok f) = K f) →
      Seg M A R Y n s₀ (.forLoop target it body orelse env) (M.den (.forLoop target it body orelse env)) (.ret k none (gd false) (lv []) c p [] :: fs) s₂) (fun _ _ => False) s₁) (fun _ _ => False) s)
    (hs : ∀ x, foldedSetIterable iter env x = pure x := by intro _; rfl) :
    Seg M A R Y n s₀ c ((exec (.For target iter body orelse pos) env).wrap K H gd lv) fs s := by
  rw [exec_For]
  refine seg_bind_wrap (wpAny_standAt ?_)
  refine seg_bind_wrap (wpAny_mono h (fun x s₁ h₁ => ?_) fun _ _ x => x.elim)
  refine seg_bind_wrap (wpAny_of_eq (hs x) ?_)
  refine seg_bind_wrap (wpAny_standAt ?_)
  refine seg_bind_wrap (wpAny_holding (wpAny_mono h₁ (fun it s₂ h₂ => ?_) fun _ _ x => x.elim))
  exact seg_call fun p => h₂ _ p fun f => rfl
end
section
variable {prog : Program} {w : World} {A : Around} {R : GenEnd} {Y : Protocol} {n : Nat} {s₀ : Shared} {fs : List Frame} {s : Shared} {env : Env}
/-- a turn of that loop; of what waits behind the body no more is wanted than that it turns again -/
theorem g_turn {target : PySem.Expr} {it : Value} {body : List Stmt}
    (h : wpAny (model prog w) (A.over (.forLoop target it body [] env) fs) (pyNext it) (fun r s' => match r with
      | none => Seg (model prog w) A R Y n s₀ (.block [] env) (leafOf (.ok .next)) fs s'
      | some v => wpAny (model prog w) (A.over (.forLoop target it body [] env) fs) (letOwnedTupleGo target it v) (fun _ s₁ =>
          wpAny (model prog w) (A.over (.forLoop target it body [] env) fs) (assign target env v) (fun _ s₂ => ∀ (K : Flow → Sem Fin) (H : Value → Sem Fin), K .next = .pure (.again (.forLoop target it body [] env)) →
            Seg (model prog w) A R Y n s₀ (.forLoop target it body [] env) ((execs body env).wrap K H id id) fs s₂) (fun _ _ => False) s₁) (fun _ _ => False) s') (fun _ _ => False) s) :
    Seg (model prog w) A R Y n s₀ (.forLoop target it body [] env) ((model prog w).den (.forLoop target it body [] env)) fs s := by
  obtain ⟨H₀, den⟩ : ∃ H₀, (model prog w).den (.forLoop target it body [] env) = (forTurn target it body [] env).wrap .pure H₀ id id := ⟨_, Sem.onRaise_eq_wrap _ _⟩
  rw [den, forTurn]
  refine seg_bind_wrap (wpAny_standAt (seg_bind_wrap (wpAny_onRaise (wpAny_mono h (fun r s' p => ?_) fun _ _ x => x.elim))))
  match r, p with
  | none, p => exact seg_again (c' := .block [] env) rfl p
  | some v, p =>
    refine seg_bind_wrap (wpAny_mono p (fun _ s₁ p₁ => ?_) fun _ _ x => x.elim)
    refine seg_bind_wrap (wpAny_mono p₁ (fun _ s₂ p₂ => ?_) fun _ _ x => x.elim)
    rw [Sem.bind_eq_wrap', Sem.wrap_wrap]
    exact p₂ _ _ rfl
end
/-! ## the generator between two draws -/
/-- what the generator may have done since it was woken: of what is older than its own names, nothing -/
noncomputable def GS (L2 a : Nat) (s₀ s : Shared) : Prop := ∃ h' tk, s = { s₀ with heap := h', toks := tk } ∧ ∀ b o, (b < L2 ∨ b = a) → s₀.heap.get? b = some o → h'.get? b = some o
noncomputable def itemAt (x : Str) (i : Nat) (v : Value) (s : Shared) : Prop := ∃ t c t1 t2, v = .ref t ∧ s.heap.IsTuple t #[.int i t1, .str ⟨#[c]⟩ t2] ∧ x.cps[i]? = some c
noncomputable def gY (x : Str) (C L2 a : Nat) : Protocol := fun m s₀ v s kap => itemAt x (x.cps.size - 1 - m) v s ∧ GS L2 a s₀ s ∧ ∀ s'' : Shared, (∀ b o, b ≠ C → s.heap.get? b = some o → s''.heap.get? b = some o) → kap (.send .none) s''
noncomputable abbrev gR (L2 a : Nat) : GenEnd := fun n s₀ r s₁ => r = .ok (.ret .none) ∧ (n = 0 ∧ GS L2 a s₀ s₁)
noncomputable def GenSt (prog : Program) (w : World) (B : Around) (x : Str) (C L2 a : Nat) (g i : Nat) (s : Shared) : Prop :=
  s.heap.IsGen a g ∧ s.heap.NoLimit ∧ ∃ gs, s.gens[g]? = some gs ∧ ∀ s'' : Shared, (∀ b o, b ≠ C → s.heap.get? b = some o → s''.heap.get? b = some o) →
    gs.Goes (model prog w) B (gR L2 a) (gY x C L2 a) (x.cps.size - i) (.send .none) s''
/-- since the draw began -/
noncomputable def Drew (L2 a : Nat) (s s' : Shared) : Prop := ∃ h' tk gs', s' = { s with heap := h', gens := gs', toks := tk } ∧ (AllBare s.gens → AllBare gs') ∧ ∀ b o, (b < L2 ∨ b = a) → s.heap.get? b = some o → h'.get? b = some o
theorem bare_set {s : Shared} {g : Nat} {y : GenState} (hy : y.bare = true) (h : AllBare s.gens) : AllBare (s.setGen g y).gens := by
  intro z hz
  rcases Array.mem_or_eq_of_mem_setIfInBounds hz with hz | rfl
  · exact h z hz
  · exact hy
section
variable {prog : Program} {w : World} {A : Around} {E : Value → Shared → Prop} {s : Shared}
/-- the exception that says a generator is through: what was there before stays -/
theorem stop_made {M : Model} {Q : Value → Shared → Prop} (h : ∀ h' e, (∀ b o, s.heap.get? b = some o → h'.get? b = some o) → ({ s with heap := h' } : Shared).TypeIs (.ref e) "StopIteration" → Q (.ref e) { s with heap := h' }) :
    wpAny M A (newExc (.type "StopIteration") []) Q E s := by
  unfold newExc newTuple
  refine wpAny_bind (wpAny_newObj_type (wpAny_bind (wpAny_of_eq (a := .none) ?none (wpAny_newObj_type (h _ _ (fun b o hb => ?old) ⟨_, Heap.get?_push_size _ rfl, rfl⟩) (by size_fits)))) (by size_fits))
  case none => unfold firstArgMember; rfl
  case old => exact Heap.get?_push_of_some _ (Heap.get?_push_of_some _ hb)
/-- a draw is a wake; where the wake tells of the end, nothing is drawn -/
theorem draw_wake {a g : Nat} {Q : Option Value → Shared → Prop} (hg : s.heap.IsGen a g)
    (h : wpAny (model prog w) A.in1 (Builtin.Generator.genWake (.ref a) (.send .none)) (fun r s' => ∃ v, r = .done (.ret v) ∧ Q (some v) s') (fun e s' => s'.TypeIs e "StopIteration" ∧ Q none s') s) :
    wpAny (model prog w) A (pyNext (.ref a)) Q E s := by
  have called : wpAny (model prog w) A (call (.builtin "generator.__next__") [.ref a] []) (fun v s' => Q (some v) s') (fun e s' => s'.TypeIs e "StopIteration" ∧ Q none s') s := by
    refine wpAny_call_entry slot_gen_next hg.typeIs entry_gen_next (wpAny_mono h (fun r s' p => ?_) fun _ _ p => p) (args_gen_next _)
    obtain ⟨v, rfl, q⟩ := p
    exact ⟨v, rfl, q⟩
  unfold pyNext
  refine wpAny_bind (wpAny_attempt (wpAny_callSpecial?_slot (name := Str.ofString "__next__") hg.typeIs slot_gen_next (wpAny_mono called (fun v s' q => wpAny_pure q) fun e s' q => ?_)))
  exact wpAny_bind (wpAny_isInstance q.1 isSubtype_stop (wpAny_pure q.2))
/-- a wake by its two ends: a value, or nothing more -/
theorem wake_ends {a g n : Nat} {gs : GenState} {P : Nat → Shared → Shared → Prop} {Y : Protocol} {Q : Option Value → Shared → Prop} (hh : A.handled = none) (hl : s.heap.NoLimit) (hroom : A.depth < recursionLimit) (hg : s.heap.IsGen a g) (hgs : s.gens[g]? = some gs)
    (hgo : gs.Goes (model prog w) A (fun n s₀ r s₁ => r = .ok (.ret .none) ∧ P n s₀ s₁) Y n (.send .none) (s.setGen g .running))
    (more : ∀ v s₁ gs', gs'.bare = true → Y (n - 1) (s.setGen g .running) v s₁ (fun r' s'' => match n with | 0 => False | m + 1 => gs'.Goes (model prog w) A (fun n s₀ r s₁ => r = .ok (.ret .none) ∧ P n s₀ s₁) Y m r' s'') → Q (some v) (s₁.setGen g gs'))
    (over : ∀ s₁ h', P n (s.setGen g .running) s₁ → (∀ b o, s₁.heap.get? b = some o → h'.get? b = some o) → Q none { s₁.setGen g .finished with heap := h' }) :
    wpAny (model prog w) A (Builtin.Generator.genWake (.ref a) (.send .none)) (fun r s' => ∃ v, r = .done (.ret v) ∧ Q (some v) s') (fun e s' => s'.TypeIs e "StopIteration" ∧ Q none s') s := by
  have asleep : gs.status = .fresh ∨ gs.status = .suspended := by
    cases gs with
    | fresh c => exact .inl rfl
    | suspended k l c p fs cl => exact .inr rfl
    | running => exact hgo.elim
    | finished => exact hgo.elim
  have woken : ∀ {k : GenResult → Sem PySem.Fin} {f : PUnit → Sem PySem.Fin}, (∀ v, k (.yielded v) = ret v) → k (.returned .none) = (newExc (.type "StopIteration") [] >>= fun e => (raiseNew e : Sem PUnit) >>= f) →
      wpAny (model prog w) A (.resume g (.send .none) [] k) (fun r s' => ∃ v, r = .done (.ret v) ∧ Q (some v) s') (fun e s' => s'.TypeIs e "StopIteration" ∧ Q none s') s := by
    intro k f ky kr
    refine wpAny_resumeQ hgs hgo ?_ fun v s₁ gs' hb hv => by rw [ky]; exact wpAny_pure ⟨v, rfl, more v s₁ gs' hb hv⟩
    rintro _ s₁ ⟨rfl, hp⟩
    show wpAny _ A (k (.returned .none)) _ _ _
    rw [kr]
    exact wpAny_bind (stop_made fun h' e keep isStop => wpAny_bind (wpAny_raiseNew_none hh ⟨isStop, over s₁ h' hp keep⟩))
  unfold Builtin.Generator.genWake
  refine wpAny_bind (wpAny_holding (wpAny_genNumber hg (wpAny_bind (wpAny_genState hgs ?_))))
  rcases asleep with e | e
  · rw [e]
    exact wpAny_bind (wpAny_roomToWake hl hroom (woken (fun _ => rfl) rfl))
  · rw [e]
    exact wpAny_bind (wpAny_roomToWake hl hroom (woken (fun _ => rfl) rfl))
end
section
variable {prog : Program} {w : World} {A : Around} {E : Value → Shared → Prop} {s : Shared} {x : Str} {C L2 a g i : Nat}
theorem gen_draw {Q : Option Value → Shared → Prop} (hh : A.handled = none) (hroom : A.depth < recursionLimit) (hc : cStatics < L2) (st : GenSt prog w A.in1 x C L2 a g i s)
    (item : ∀ v s', i < x.cps.size → itemAt x i v s' → GenSt prog w A.in1 x C L2 a g (i + 1) s' → Drew L2 a s s' → Q (some v) s')
    (done : ∀ s', i ≥ x.cps.size → Drew L2 a s s' → Q none s') : wpAny (model prog w) A (pyNext (.ref a)) Q E s := by
  obtain ⟨hg, hl, gs, hgs, hgo⟩ := st
  have bare₂ : ∀ {y : GenState}, y.bare = true → AllBare s.gens → AllBare ((s.setGen g .running).setGen g y).gens := fun hy hb => bare_set (s := s.setGen g .running) hy (bare_set rfl hb)
  refine draw_wake hg (wake_ends (A := A.in1) hh hl hroom hg hgs (hgo (s.setGen g .running) fun _ _ _ e => e) ?_ ?_)
  · rintro v _ gs' hb ⟨hit, ⟨h₁, tk₁, rfl, hk₁⟩, hkap⟩
    have hi : i < x.cps.size := by
      obtain ⟨t, c, t1, t2, _, _, hc⟩ := hit
      refine Nat.lt_of_not_le fun hge => ?_
      rw [Nat.sub_eq_zero_of_le hge] at hkap
      exact hkap { (s.setGen g .running) with heap := h₁, toks := tk₁ } fun _ _ _ e => e
    obtain ⟨m, hm⟩ : ∃ m, x.cps.size - i = m + 1 := ⟨x.cps.size - i - 1, by omega⟩
    rw [hm] at hkap hit
    rw [show x.cps.size - 1 - (m + 1 - 1) = i by omega] at hit
    obtain ⟨o, nm, qn, ho, r⟩ := hg
    obtain ⟨mc, hns, hnn⟩ := hl
    refine item v _ hi hit ⟨⟨o, nm, qn, hk₁ a o (.inr rfl) ho, r⟩, ⟨mc, hns.at' fun o e => hk₁ cStatics o (.inl hc) e, hnn⟩, gs', setGen_self (gs := .running) (setGen_self hgs), fun s'' hal => ?_⟩ ⟨_, _, _, rfl, bare₂ hb, hk₁⟩
    rw [show x.cps.size - (i + 1) = m by omega]
    exact hkap s'' hal
  · rintro _ h' ⟨hz, h₁, tk₁, rfl, hk₁⟩ hk'
    exact done _ (by omega) ⟨_, _, _, rfl, bare₂ rfl, fun b o hb e => hk' b o (hk₁ b o hb e)⟩
end
/-! ## the loop that draws from a generator -/
noncomputable def ledOf (h₀ : Heap) (C : Addr) (h : Heap) : Led := (List.range h.objs.size).filterMap fun b => if b = C then none else if (h₀.get? b).isSome = true then none else (h.get? b).map fun o => (b, o)
theorem ledOf_news (h₀ : Heap) (C : Addr) (h : Heap) : News h₀ C h (ledOf h₀ C h) := by
  intro p hp
  obtain ⟨b, _, hb⟩ := List.mem_filterMap.mp hp
  by_cases h1 : b = C
  · rw [if_pos h1] at hb; cases hb
  rw [if_neg h1] at hb
  by_cases h2 : (h₀.get? b).isSome = true
  · rw [if_pos h2] at hb; cases hb
  rw [if_neg h2] at hb
  obtain ⟨o, ho, rfl⟩ := Option.map_eq_some_iff.mp hb
  exact ⟨ho, h1, by simpa using h2⟩
theorem ledOf_keep {h₀ h h' : Heap} {C : Addr} {m m' : Str → Option Value} (F : Fr h₀ C h m) (F' : Fr h₀ C h' m') (N : News h₀ C h' (ledOf h₀ C h)) : ∀ b o, b ≠ C → h.get? b = some o → h'.get? b = some o := by
  intro b o hb ho
  cases q : h₀.get? b with
  | some o' =>
    have := F.keep b o' q
    rw [ho] at this
    cases this
    exact F'.keep b _ q
  | none =>
    refine (N (b, o) (List.mem_filterMap.mpr ⟨b, List.mem_range.mpr (Heap.lt_size ho), ?_⟩)).1
    rw [if_neg hb, q, ho]; rfl
theorem GenSt.frame {prog : Program} {w : World} {B : Around} {x : Str} {C L2 a g i : Nat} {s : Shared} {h' : Heap} {tk : Nat} (st : GenSt prog w B x C L2 a g i s) (ha : a ≠ C) (hc : cStatics ≠ C) (hk : ∀ b o, b ≠ C → s.heap.get? b = some o → h'.get? b = some o) : GenSt prog w B x C L2 a g i { s with heap := h', toks := tk } := by
  obtain ⟨⟨o, nm, qn, ho, r⟩, ⟨mc, hns, hnn⟩, gs, hgs, hgo⟩ := st
  exact ⟨⟨o, nm, qn, hk a o ha ho, r⟩, ⟨mc, hns.at' fun o e => hk cStatics o hc e, hnn⟩, gs, hgs, fun s'' hal => hgo s'' fun b o hb e => hal b o hb (hk b o hb e)⟩
section
variable {prog : Program} {w : World} {A : Around} {s : Shared} {x : Str} {L2 a g : Nat} {env : Env} {h₀ : Heap} {m : Str → Option Value}
theorem let_gen {elts : List PySem.Expr} {x1} {pos : Pos} {t : Addr} {Q : Unit → Shared → Prop} {E : Value → Shared → Prop} (hg : s.heap.IsGen a g) (h : Q () s) : wpAny (model prog w) A (letOwnedTupleGo (.Tuple elts x1 pos) (.ref a) (.ref t)) Q E s := by
  obtain ⟨⟨cls, d, data, sl⟩, nm, qn, ho, hc, hd, hs⟩ := hg
  simp only at hc hd
  subst hc hd
  unfold letOwnedTupleGo
  refine wpAny_bind (wpAny_load ho ?_)
  dsimp only
  split
  · rename_i owned
    simp at owned
  · exact wpAny_pure h
/-- the end of a turn of the loop that draws -/
noncomputable def TurnC (h₀ : Heap) (L : Addr) (led : Led) (J : (Str → Option Value) → Prop) (s₁ : Shared) (Q : Flow → Shared → Prop) (f : Flow) (s₂ : Shared) : Prop :=
  match f with
  | .ret v => Q (.ret v) s₂
  | .brk => Q .next s₂
  | _ => ∃ h' tk' m', s₂ = { s₁ with heap := h', toks := tk' } ∧ Fr h₀ L h' m' ∧ News h₀ L h' led ∧ J m'
theorem code_gen {E : Value → Shared → Prop} {Q : Flow → Shared → Prop} {pn cn : Str} {pp cp tp : Pos} {xk} {body : List Stmt} (hh : A.handled = none) (hroom : A.depth < recursionLimit)
    (hpn : env.kindOf pn = some .local) (hcn : env.kindOf cn = some .local) (hp : (env.scope.kind == .class || (env.scope.kind == .module && env.locals != env.globals)) = false) (hE : PassesOwn (model prog w) A env E)
    (hC : @LT.lt Nat _ env.locals L2) (ha : @LT.lt Nat _ L2 a) (hc : @LT.lt Nat _ cStatics h₀.objs.size) (F : Fr h₀ env.locals s.heap m) {news : Led} (N : News h₀ env.locals s.heap news) (hnl : ∀ p ∈ news, p.1 < L2) (st : GenSt prog w A.in1 x env.locals L2 a g 0 s)
    (J : Nat → (Str → Option Value) → Prop) (h0 : J 0 m)
    (turn : ∀ i c t1 t2 m₁ led h tk gs, x.cps[i]? = some c → J i m₁ → (AllBare s.gens → AllBare gs) → Fr h₀ env.locals h (fun y => if y = cn then some (.str ⟨#[c]⟩ t2) else if y = pn then some (.int (i : Nat) t1) else m₁ y) → News h₀ env.locals h (led ++ news) →
      wpAny (model prog w) A (execs body env) (TurnC h₀ env.locals (led ++ news) (J (i + 1)) { s with heap := h, gens := gs, toks := tk } Q) E { s with heap := h, gens := gs, toks := tk })
    (done : ∀ m₁ h tk gs, J x.cps.size m₁ → (AllBare s.gens → AllBare gs) → Fr h₀ env.locals h m₁ → News h₀ env.locals h news → Q .next { s with heap := h, gens := gs, toks := tk }) :
    codeAny (model prog w) A (.forLoop (.Tuple [.Name pn pp, .Name cn cp] xk tp) (.ref a) body [] env) (fun r s' => match r with | .ok f => Q f s' | .error e => cameBackBy (model prog w) A env E e s') s := by
  have hcC : @LT.lt Nat _ cStatics env.locals := Nat.lt_of_lt_of_le hc F.above
  refine codeAny_forLoop_any
    (fun k s' => ∃ h' tk gs m' i, s' = { s with heap := h', gens := gs, toks := tk } ∧ GenSt prog w A.in1 x env.locals L2 a g i s' ∧ Fr h₀ env.locals h' m' ∧ News h₀ env.locals h' news ∧ J i m' ∧ (AllBare s.gens → AllBare gs) ∧ i ≤ x.cps.size ∧ k = x.cps.size + 1 - i) ?_ (x.cps.size + 1)
    ⟨s.heap, s.toks, s.gens, m, 0, rfl, st, F, N, h0, id, Nat.zero_le _, rfl⟩
  rintro k s' ⟨h', tk, gs, m', i, rfl, st', F', N', hJ, hb, hi, rfl⟩
  have old : ∀ b o, h₀.get? b = some o → b < L2 ∨ b = a := fun b o e => .inl (Nat.lt_trans (Nat.lt_of_lt_of_le (Heap.lt_size e) F.above) hC)
  refine gen_draw hh hroom (Nat.lt_trans hcC hC) st' (fun v s₁ hlt hit st₁ dr => ?_) fun s₁ hge dr => ?_
  · obtain ⟨t, c, t1, t2, rfl, ht, hcx⟩ := hit
    obtain ⟨h₁, tk₁, gs₁, rfl, hb₁, hk₁⟩ := dr
    refine let_gen st₁.1 ?_
    have F₁ : Fr h₀ env.locals h₁ m' := ⟨F'.ns.at' fun o e => hk₁ _ o (.inl hC) e, fun b o e => hk₁ b o (old b o e) (F'.keep b o e), F'.above⟩
    refine wpAny_assign_Tuple hh ht rfl rfl fun h₃ hx₃ => ?_
    replace hx₃ : Heap.ExtBut h₁.objs.size h₁ h₃ := hx₃
    have up₃ : ∀ b o, h₁.get? b = some o → h₃.get? b = some o := fun b o e => hx₃ b o (Nat.ne_of_lt (Heap.lt_size e)) e
    have F₃ : Fr h₀ env.locals h₃ m' := ⟨F₁.ns.keeps up₃, fun b o e => up₃ b o (F₁.keep b o e), F₁.above⟩
    show wpAny _ A (do holding [.str ⟨#[c]⟩ t2] (assign (.Name pn pp) env (.int i t1)); do holding [] (assign (.Name cn cp) env (.str ⟨#[c]⟩ t2)); pure ()) _ _ _
    refine wpAny_bind (wpAny_holding (wpAny_assign_Name (wpAny_storeName_local hpn F₃.ns (fun h₄ hn₄ hs₄ => ?_) hp)))
    replace hs₄ : Heap.SameBut env.locals h₃ h₄ := hs₄
    refine wpAny_bind (wpAny_holding (wpAny_assign_Name (wpAny_storeName_local hcn hn₄ (fun h₅ hn₅ hs₅ => wpAny_pure ?_) hp)))
    replace hs₅ : Heap.SameBut env.locals h₄ h₅ := hs₅
    have F₅ := (F₃.set hn₄ hs₄).set hn₅ hs₅
    have up₅ : ∀ b o, b ≠ env.locals → h₁.get? b = some o → h₅.get? b = some o := fun b o hb e => hs₅.extBut b o hb (hs₄.extBut b o hb (up₃ b o e))
    have N₅ : News h₀ env.locals h₅ news := fun p hp => ⟨up₅ _ _ (N' p hp).2.1 (hk₁ _ _ (.inl (hnl p hp)) (N' p hp).1), (N' p hp).2⟩
    have NL : News h₀ env.locals h₅ (ledOf h₀ env.locals h₅ ++ news) := fun p hp => (List.mem_append.mp hp).elim (fun q => ledOf_news _ _ _ p q) fun q => N₅ p q
    refine wpAny_mono (wpAny_passesOwn hE (turn i c t1 t2 m' (ledOf h₀ env.locals h₅) h₅ _ gs₁ hcx hJ (fun q => hb₁ (hb q)) F₅ NL)) (fun f s₃ h₆ => ?_) fun _ _ e => e
    have go : (∃ h'' tk' m'', s₃ = { ({ s with heap := h₅, gens := gs₁, toks := tk₁ + 1 + 1 } : Shared) with heap := h'', toks := tk' } ∧ Fr h₀ env.locals h'' m'' ∧ News h₀ env.locals h'' (ledOf h₀ env.locals h₅ ++ news) ∧ J (i + 1) m'') →
        ∃ k', k' < x.cps.size + 1 - i ∧ ∃ h' tk gs m' i, s₃ = { s with heap := h', gens := gs, toks := tk } ∧ GenSt prog w A.in1 x env.locals L2 a g i s₃ ∧ Fr h₀ env.locals h' m' ∧ News h₀ env.locals h' news ∧ J i m' ∧ (AllBare s.gens → AllBare gs) ∧ i ≤ x.cps.size ∧ k' = x.cps.size + 1 - i := by
      rintro ⟨h'', tk', m'', rfl, F₆, N₆, hJ₆⟩
      refine ⟨x.cps.size + 1 - (i + 1), by omega, h'', tk', gs₁, m'', i + 1, rfl, ?_, F₆, fun p hp => N₆ p (List.mem_append.mpr (.inr hp)), hJ₆, fun q => hb₁ (hb q), hlt, rfl⟩
      exact st₁.frame (Nat.ne_of_gt (Nat.lt_trans hC ha)) (Nat.ne_of_lt hcC) fun b o hbC e => ledOf_keep F₅ F₆ (fun p hp => N₆ p (List.mem_append.mpr (.inl hp))) b o hbC (up₅ b o hbC e)
    cases f with
    | ret v => exact h₆
    | brk => exact h₆
    | cont => exact go h₆
    | next => exact go h₆
  · obtain ⟨h₁, tk₁, gs₁, rfl, hb₁, hk₁⟩ := dr
    have hin : i = x.cps.size := by omega
    subst hin
    exact wpAny_execs_nil (done m' h₁ tk₁ gs₁ hJ (fun q => hb₁ (hb q)) ⟨F'.ns.at' fun o e => hk₁ _ o (.inl hC) e, fun b o e => hk₁ b o (old b o e) (F'.keep b o e), F'.above⟩ fun p hp => ⟨hk₁ _ _ (.inl (hnl p hp)) (N' p hp).1, (N' p hp).2⟩)
end
/-! ## the generator is made -/
section
variable {prog : Program} {w : World} {A : Around} {s : Shared} {h₀ : Heap} {L f : Addr} {m : Str → Option Value}
theorem gen_def {K : Frag} {R : Result → Shared → Prop} {name qual : Str} {params : Arguments} {body : List Stmt} {scope : Scope} {dV kV doc pm cdv ct oc : Value} {an od : Option Addr} {osl : Array (Option Value)} {args : Args} {binds : List (Str × Value)}
    (X : K.In s.heap) (hl : s.heap.NoLimit)
    (ho : K.lookup f = some ⟨oc, od, .func (fnOf name qual params body scope dV kV doc pm an cdv ct), osl⟩) (hcd : codeIn K cdv qual = true) (hroom : A.depth < recursionLimit)
    (hbind : BindsTo s (fnOf name qual params body scope dV kV doc pm an cdv ct) args binds) (hloc : ∀ y ∈ binds, scope.names.lookup y.1 = some .local)
    (h : ∀ (h₁ : Heap) (tk : Nat) (o : Obj), (∀ b o, s.heap.get? b = some o → h₁.get? b = some o) → h₁.objs.size = s.heap.objs.size + 1 → h₁.Ns s.heap.objs.size (fun y => binds.reverse.lookup y) → (h₁.push o).IsGen h₁.objs.size s.gens.size →
      R (.ok (.ret (.ref h₁.objs.size))) { s with gens := s.gens.push (.fresh (.func body (envOf qual scope s.heap.objs.size f cdv))), toks := tk, heap := h₁.push o })
    (hco : scope.isCoroutine = false := by rfl) (hgen : scope.isGenerator = true := by rfl) (hk : scope.kind = .function := by rfl)
    (hcell : ∀ x ∈ scope.names, x.2 ≠ .cell := by decide) : codeAny (model prog w) A (.call (.ref f) args) R s := by
  refine codeAny_call_generator hroom (X _ _ ho) rfl hco hgen rfl (codeRec_of X hcd) ?_
  refine hbind _ _ _ _ (wpAny_newFunctionEnv hcell hloc (fun h₁ hns hsb => ⟨hl.fresh _ hsb, ?_⟩) hk)
  have hz : h₁.objs.size = s.heap.objs.size + 1 := by rw [hsb.1, Heap.size_push]
  exact h h₁ _ _ (fun b o e => hsb.extBut b o (Nat.ne_of_lt (Heap.lt_size e)) (Heap.get?_push_of_some _ e)) hz hns ⟨_, _, _, Heap.get?_push_size _ rfl, rfl, rfl, rfl⟩
end
/-! ## the generator's own loop over enumerate -/
theorem draws_str {prog : Program} {w : World} {A : Around} (hh : A.handled = none) (it : Addr) (x : Str) (t : Tok) :
    Draws prog w A it [it] x.cps.size (fun i v => ∃ c u, x.cps[i]? = some c ∧ v = .str ⟨#[c]⟩ u) (fun i h => h.IsStrIter it (strIterType x) x t i) := by
  unfold strIterType
  split
  · exact Draws.strAscii hh it x t
  · exact Draws.strWide hh it x t
theorem GS.refl {L2 a : Nat} (s : Shared) : GS L2 a s s := ⟨s.heap, s.toks, rfl, fun _ _ _ e => e⟩
theorem GS.step {L2 a : Nat} {s₀ s : Shared} (x : GS L2 a s₀ s) {h' : Heap} {tk : Nat} (hk : ∀ b o, (b < L2 ∨ b = a) → s.heap.get? b = some o → h'.get? b = some o) : GS L2 a s₀ { s with heap := h', toks := tk } := by
  obtain ⟨h₁, tk₁, rfl, hk₁⟩ := x
  exact ⟨h', tk, rfl, fun b o hb e => hk b o hb (hk₁ b o hb e)⟩
section
variable {prog : Program} {w : World} {B : Around} {h₀ : Heap} {C a e it : Nat} {x : Str} {tx : Tok} {env : Env} {fs : List Frame} {pn cn : Str} {pp cp tp : Pos} {xk : Nat} {body : List Stmt} {esc : Str}
noncomputable abbrev gLoop (pn cn : Str) (pp cp tp : Pos) (xk : Nat) (e : Nat) (body : List Stmt) (env : Env) : Code := .forLoop (.Tuple [.Name pn pp, .Name cn cp] xk tp) (.ref e) body [] env
theorem gen_loop (hh' : (B.over (gLoop pn cn pp cp tp xk e body env) fs).handled = none) (hpn : env.kindOf pn = some .local) (hcn : env.kindOf cn = some .local) (hp : (env.scope.kind == .class || (env.scope.kind == .module && env.locals != env.globals)) = false)
    (hep : esc ≠ pn) (hec : esc ≠ cn) (hCb : h₀.objs.size ≤ C) (hCL : @LT.lt Nat _ C env.locals) (hLa : @LT.lt Nat _ env.locals a) (hae : a < e) (hai : a < it) (hei : e ≠ it) (hx : ∀ c, c ∈ x.cps → c ≠ 92)
    (hend : ∀ (s₀ s : Shared) (m' : Str → Option Value), Fr h₀ env.locals s.heap m' → m' esc = some (.bool false) → GS env.locals a s₀ s → Seg (model prog w) B (gR env.locals a) (gY x C env.locals a) 0 s₀ (.block [] env) (leafOf (.ok .next)) fs s)
    (hb : ∀ (K : Flow → Sem Fin) (H : Value → Sem Fin), K .next = .pure (.again (gLoop pn cn pp cp tp xk e body env)) → ∀ (n' i c : Nat) (t1 t2 : Tok) (s₀ s : Shared) (m' : Str → Option Value) (led : Led), Fr h₀ env.locals s.heap (fun y => if y = cn then some (.str ⟨#[c]⟩ t2) else if y = pn then some (.int (i : Nat) t1) else m' y) → m' esc = some (.bool false) → c ≠ 92 → News h₀ env.locals s.heap led →
      (∀ (v : Value) (h' : Heap) (tk : Nat) (m'' : Str → Option Value) (kap : Resume → Shared → Prop), Fr h₀ env.locals h' m'' → m'' esc = some (.bool false) → News h₀ env.locals h' led → (∃ t, v = .ref t ∧ h'.IsTuple t #[.int (i : Nat) t1, .str ⟨#[c]⟩ t2]) →
        (∀ s'', Seg (model prog w) B (gR env.locals a) (gY x C env.locals a) n' s'' (gLoop pn cn pp cp tp xk e body env) (.pure (.again (gLoop pn cn pp cp tp xk e body env))) fs s'' → kap (.send .none) s'') → gY x C env.locals a n' s₀ v { s with heap := h', toks := tk } kap) →
      Seg (model prog w) B (gR env.locals a) (gY x C env.locals a) (n' + 1) s₀ (gLoop pn cn pp cp tp xk e body env) ((execs body env).wrap K H id id) fs s) :
    ∀ (k i : Nat) (s₀ s : Shared) (m : Str → Option Value), x.cps.size - i = k → i ≤ x.cps.size → Fr h₀ env.locals s.heap m → m esc = some (.bool false) → (∃ old, IsEnum s.heap e it i old) → s.heap.IsStrIter it (strIterType x) x tx i → GS env.locals a s₀ s →
      Seg (model prog w) B (gR env.locals a) (gY x C env.locals a) (x.cps.size - i) s₀ (gLoop pn cn pp cp tp xk e body env) ((model prog w).den (gLoop pn cn pp cp tp xk e body env)) fs s := by
  have hLe : env.locals ≠ e := Nat.ne_of_lt (Nat.lt_trans hLa hae)
  have hLi : env.locals ≠ it := Nat.ne_of_lt (Nat.lt_trans hLa hai)
  have W := WalksT.enumerateD (draws_str (prog := prog) (w := w) (A := (B.over (gLoop pn cn pp cp tp xk e body env) fs).in1) hh' it x tx) e hei (fun h => hei (List.mem_singleton.mp h)) (List.mem_singleton_self _)
  have off : ∀ b, (b < env.locals ∨ b = a) → b ∉ [e, it] := fun b hbb hm => by
    rcases List.mem_cons.mp hm with h | hm
    · rcases hbb with hbb | hbb
      · exact absurd (Nat.lt_trans (h ▸ hbb) (Nat.lt_trans hLa hae)) (Nat.lt_irrefl _)
      · exact absurd hae (by rw [← h, hbb]; exact Nat.lt_irrefl _)
    · have h := List.mem_singleton.mp hm
      rcases hbb with hbb | hbb
      · exact absurd (Nat.lt_trans (h ▸ hbb) (Nat.lt_trans hLa hai)) (Nat.lt_irrefl _)
      · exact absurd hai (by rw [← h, hbb]; exact Nat.lt_irrefl _)
  have offL : env.locals ∉ [e, it] := fun hm => by
    rcases List.mem_cons.mp hm with h | hm
    · exact hLe h
    · exact hLi (List.mem_singleton.mp hm)
  intro k
  induction k with
  | zero =>
    intro i s₀ s m hk hi F hes he hit hg
    have hin : i = x.cps.size := by omega
    subst hin
    refine g_turn (W.done s _ _ ⟨he, hit⟩ fun h' tk hk' => ?_)
    rw [Nat.sub_self]
    refine hend _ _ m ⟨F.ns.at' fun o q => hk' _ o offL q, fun b o q => hk' b o (fun hm => off b (.inl (Nat.lt_of_lt_of_le (Heap.lt_size q) F.above)) hm) (F.keep b o q), F.above⟩ hes (hg.step fun b o hb q => hk' b o (off b hb) q)
  | succ k ih =>
    intro i s₀ s m hk hi F hes he hit hg
    have hlt : i < x.cps.size := by omega
    refine g_turn (W.item i s _ _ hlt ⟨he, hit⟩ fun T vals h₁ tk₁ hPt hTs hTup hMid hk₁ => ?_)
    obtain ⟨t1, v1, ⟨c, t2, hc, rfl⟩, rfl⟩ := hPt
    refine W.go _ _ _ i T _ _ _ hMid fun h₂ hSt hk₂ => ?_
    obtain ⟨he₂, hit₂⟩ := hSt
    have hTw := W.apart i T _ hMid
    have hTup₂ : h₂.IsTuple T #[.int (i : Nat) t1, .str ⟨#[c]⟩ t2] := hTup.at fun o q => hk₂ _ o hTw q
    have up₂ : ∀ b o, b ∉ [e, it] → s.heap.get? b = some o → h₂.get? b = some o := fun b o hb q => hk₂ b o hb (hk₁ b o hb q)
    have F₂ : Fr h₀ env.locals h₂ m := ⟨F.ns.at' fun o q => up₂ _ o offL q, fun b o q => up₂ b o (fun hm => off b (.inl (Nat.lt_of_lt_of_le (Heap.lt_size q) F.above)) hm) (F.keep b o q), F.above⟩
    refine wpAny_assign_Tuple hh' hTup₂ rfl rfl fun h₃ hx₃ => ?_
    replace hx₃ : Heap.ExtBut h₂.objs.size h₂ h₃ := hx₃
    have up₃ : ∀ b o, h₂.get? b = some o → h₃.get? b = some o := fun b o q => hx₃ b o (Nat.ne_of_lt (Heap.lt_size q)) q
    have F₃ : Fr h₀ env.locals h₃ m := ⟨F₂.ns.keeps up₃, fun b o q => up₃ b o (F₂.keep b o q), F₂.above⟩
    show wpAny _ _ (do holding [.str ⟨#[c]⟩ t2] (assign (.Name pn pp) env (.int i t1)); do holding [] (assign (.Name cn cp) env (.str ⟨#[c]⟩ t2)); pure ()) _ _ _
    refine wpAny_bind (wpAny_holding (wpAny_assign_Name (wpAny_storeName_local hpn F₃.ns (fun h₄ hn₄ hs₄ => ?_) hp)))
    replace hs₄ : Heap.SameBut env.locals h₃ h₄ := hs₄
    refine wpAny_bind (wpAny_holding (wpAny_assign_Name (wpAny_storeName_local hcn hn₄ (fun h₅ hn₅ hs₅ => wpAny_pure ?_) hp)))
    replace hs₅ : Heap.SameBut env.locals h₄ h₅ := hs₅
    have F₅ := (F₃.set hn₄ hs₄).set hn₅ hs₅
    have up₅ : ∀ b o, b ≠ env.locals → h₂.get? b = some o → h₅.get? b = some o := fun b o hb q => hs₅.extBut b o hb (hs₄.extBut b o hb (up₃ b o q))
    have hc92 : c ≠ 92 := hx c (Array.mem_of_getElem? hc)
    obtain ⟨n', hn'⟩ : ∃ n', x.cps.size - i = n' + 1 := ⟨x.cps.size - i - 1, by omega⟩
    rw [hn']
    intro K H hK
    refine hb K H hK n' i c t1 t2 s₀ _ m (ledOf h₀ env.locals h₅) F₅ hes hc92 (ledOf_news _ _ _) ?_
    rintro v h₆ tk₆ m'' kap F₆ hes₆ N₆ ⟨t, rfl, ht⟩ hkap
    have up₆ := ledOf_keep F₅ F₆ N₆
    refine ⟨⟨t, c, t1, t2, rfl, ?_, ?_⟩, ?_, fun s'' hal => hkap s'' ?_⟩
    · rw [show x.cps.size - 1 - n' = i by omega]; exact ht
    · rw [show x.cps.size - 1 - n' = i by omega]; exact hc
    · refine GS.step (GS.step hg (h' := h₅) (tk := tk₁ + 1 + 1) fun b o hbb q => up₅ b o ?_ (up₂ b o (off b hbb) q)) fun b o hbb q => up₆ b o ?_ q
      · rcases hbb with hbb | rfl
        · exact Nat.ne_of_lt hbb
        · exact Nat.ne_of_gt hLa
      · rcases hbb with hbb | rfl
        · exact Nat.ne_of_lt hbb
        · exact Nat.ne_of_gt hLa
    · have up₇ : ∀ b o, b ≠ env.locals → b ≠ C → h₂.get? b = some o → s''.heap.get? b = some o := fun b o hbL hbC q => hal b o hbC (up₆ b o hbL (up₅ b o hbL q))
      have F₇ : Fr h₀ env.locals s''.heap m'' := ⟨F₆.ns.at' fun o q => hal _ o (Nat.ne_of_gt hCL) q, fun b o q => ?_, F₆.above⟩
      · refine seg_again rfl ?_
        have := ih (i + 1) s'' s'' m'' (by omega) hlt F₇ hes₆ ?_ ?_ (GS.refl _)
        · rw [show x.cps.size - (i + 1) = n' by omega] at this
          exact this
        · obtain ⟨old, ho⟩ := he₂
          exact ⟨old, by rw [show (((i + 1 : Nat)) : Int) = (i : Int) + 1 by push_cast; rfl] at *; exact up₇ e _ (Ne.symm hLe) (Nat.ne_of_gt (Nat.lt_trans hCL (Nat.lt_trans hLa hae))) ho⟩
        · obtain ⟨o, ho, r⟩ := hit₂
          exact ⟨o, up₇ it o (Ne.symm hLi) (Nat.ne_of_gt (Nat.lt_trans hCL (Nat.lt_trans hLa hai))) ho, r⟩
      · by_cases hbC : b = C
        · exact absurd (Heap.lt_size q) (by rw [hbC]; exact Nat.not_lt.mpr hCb)
        · exact hal b o hbC (F₆.keep b o q)
end
end Mine
end
section
open PySem PySem.W PySem.Spec PySem.Calls PyProof.Rows
namespace Mine
/-! ## a comprehension over range(b) whose own name is a cell -/
section
variable {prog : Program} {w : World} {A : Around} {E : Value → Shared → Prop} {s : Shared} {h₀ : Heap} {L : Addr} {m : Str → Option Value} {env : Env}
theorem nfe_cell {M : Model} {scope : Scope} {cl : List (Str × Addr)} {qual : Str} {gl : Addr} {x : Str} {c : Addr} {Q : Env → Shared → Prop} (hc : c = s.heap.objs.size + 1) (hcf : cellsFrom c scope.names cl = (x, c) :: cl) (hpc : ∀ h : Heap, pushCells h scope.names = h.push { cls := .type "cell", data := .cell none })
    (h : Q { scope := scope, locals := s.heap.objs.size, globals := gl, cells := (x, c) :: cl, qual := qual, func := none, code := env.code, frame := env.frame, builtins := env.builtins } { s with heap := (s.heap.push { cls := .type "dict", data := .dict #[] }).push { cls := .type "cell", data := .cell none } }) :
    wpAny M A (newFunctionEnv scope gl cl [] qual none .none (some env)) Q E s := by
  subst hc
  simp only [newFunctionEnv, Option.isSome_some, if_true]
  refine wpAny_bind (wpAny_alloc ?_)
  refine wpAny_bind (wpAny_layCells _ (fun _ _ _ => rfl) _ _ _ _ ?_)
  rw [show ({ s with heap := s.heap.push { cls := .type "dict", data := .dict #[] } } : Shared).heap.objs.size = s.heap.objs.size + 1 from Heap.size_push .., hcf, hpc]
  exact wpAny_bind (wpAny_pure (wpAny_pure h))
/-- the end of an element -/
noncomputable def CellT (h₀ : Heap) (L : Addr) (m : Str → Option Value) (s₁ : Shared) (q1 q2 q3 q4 : Addr × Obj) (news : Led) (J : Value → Led → Prop) (y : Value) (s₂ : Shared) : Prop :=
  ∃ h' tk tl, s₂ = { s₁ with heap := h', toks := tk } ∧ Fr h₀ L h' m ∧ News h₀ L h' (q1 :: q2 :: q3 :: q4 :: (tl ++ news)) ∧ (∀ p ∈ tl, p.1 ≠ q1.1 ∧ p.1 ≠ q2.1 ∧ p.1 ≠ q3.1 ∧ p.1 ≠ q4.1) ∧ J y tl
noncomputable def CellSrc (prog : Program) (w : World) (A : Around) (h₀ : Heap) (L : Addr) (m : Str → Option Value) (env : Env) (elt : PySem.Expr) (x : Str) (scope : Scope) (cl : List (Str × Addr)) (Q : Value → Shared → Prop) (xv : Value) (s₁ : Shared) : Prop :=
  ∃ (r : Addr) (b : Nat) (t u v₀ : Tok) (news : Led) (J : Nat → List Value → Led → Prop), xv = .ref r ∧ A.handled = none ∧ Fr h₀ L s₁.heap m ∧ News h₀ L s₁.heap news ∧ IsRange s₁.heap r 0 b 1 t u v₀ ∧ b ≤ 1000 ∧ J 0 [] [] ∧
    (∀ g i ys tl ti I oI C oC D c oc h tk (E' : Value → Shared → Prop), i < b → J i ys tl → oc.data = .cell (some (.int (i : Nat) ti)) → Fr h₀ L h m → News h₀ L h ((I, oI) :: (C, oC) :: (D, LCg.lst ys) :: (c, oc) :: (tl ++ news)) → (∀ p ∈ tl ++ news, p.1 ≠ I ∧ p.1 ≠ C ∧ p.1 ≠ D ∧ p.1 ≠ c) → ((@Ne Nat I C) ∧ (@Ne Nat I D) ∧ (@Ne Nat C D) ∧ (@Ne Nat I c) ∧ (@Ne Nat C c) ∧ (@Ne Nat D c)) →
      wpAny (model prog w) A (eval elt (compEnvC scope ((x, c) :: cl) C env)) (CellT h₀ L m { s₁ with heap := h, toks := tk } (I, oI) (C, oC) (D, LCg.lst ys) (c, oc) news (fun y tl' => J (i + 1) (ys ++ [y]) tl')) E' { ({ s₁ with heap := g } : Shared) with heap := h, toks := tk }) ∧
    ∀ D h tk ys tl, J b ys tl → Fr h₀ L h m → News h₀ L h ((D, LCg.lst ys) :: (tl ++ news)) → (∀ p ∈ tl ++ news, p.1 ≠ D) → Q (.ref D) { s₁ with heap := h, toks := tk }
theorem comp_cell {elt iter : PySem.Expr} {x : Str} {px : Pos} {scope : Scope} {cl : List (Str × Addr)} {pos : Pos} {Q : Value → Shared → Prop} (_F : Fr h₀ L s.heap m)
    (hclos : closureFor scope env = pure cl) (hkind : scope.kind = .function) (hnames : ∀ y ∈ scope.names, y.2 = .local → scope.names.lookup y.1 = some .local)
    (hcf : ∀ c, cellsFrom c scope.names cl = (x, c) :: cl) (hpc : ∀ h : Heap, pushCells h scope.names = h.push { cls := .type "cell", data := .cell none }) (hkx : ∀ c C, (compEnvC scope ((x, c) :: cl) C env).kindOf x = some .cell)
    (h : wpAny (model prog w) A (eval iter env) (CellSrc prog w A h₀ L m env elt x scope cl Q) E s)
    (hs : ∀ x, foldedSetIterable iter env x = pure x := by intro _; rfl) :
    wpAny (model prog w) A (eval (.ListComp elt [⟨.Name x px, iter, [], 0⟩] scope pos) env) Q E s := by
  rw [eval_ListComp]
  refine wpAny_comprehension_free (use := none) rfl hs hclos hkind hnames (wpAny_mono h (fun xv s₁ h₁ => ?_) fun _ _ e => e)
  obtain ⟨r, b, t, u, v₀, news, J, rfl, hh, F, N, hr, hb, h0, turn, done⟩ := h₁
  refine wpAny_pyIter_range hr (small_one (by decide) (by decide) (by omega) (by omega)) ?_
  have W : Walks prog w A s₁.heap.objs.size [s₁.heap.objs.size] [s₁.heap.objs.size] b (fun i v => ∃ t, v = .int ((i : Nat) : Int) t)
      (fun i h => IsRangeIter h s₁.heap.objs.size (0 + (i : Nat) * 1) ((b : Int) - (i : Nat)) 1) := by
    have W₀ := (Walks.range (prog := prog) (w := w) hh s₁.heap.objs.size 0 1 b)
    have e : ∀ i : Nat, (0 : Int) + i * 1 = i := fun i => by omega
    simpa only [e] using W₀
  generalize hI : s₁.heap.objs.size = I at *
  have hL : @LT.lt Nat _ L I := hI ▸ F.ns.lt
  refine wpAny_newObj_type ?_
  generalize hH2 : (s₁.heap.push { cls := .type "range_iterator", data := .fields #[rawInt 0, rawInt (Builtin.Range.rangeSize 0 b 1), rawInt 1] }).push { cls := .type "list", data := .seq ([] : List Value).toArray } = H2
  have hD : (s₁.heap.push { cls := .type "range_iterator", data := .fields #[rawInt 0, rawInt (Builtin.Range.rangeSize 0 b 1), rawInt 1] }).objs.size = I + 1 := by rw [Heap.size_push, hI]
  have hC : H2.objs.size = I + 1 + 1 := by rw [← hH2, Heap.size_push, hD]
  refine nfe_cell (c := I + 1 + 1 + 1) (by show _ = H2.objs.size + 1; rw [hC]) (hcf _) hpc ?_
  show codeAny (model prog w) A (.compStart _ 0 (.ref I) (.ref _) (compEnvC scope ((x, I + 1 + 1 + 1) :: cl) H2.objs.size env)) (compPost (model prog w) A E none Q (.ref _) H2.objs.size) _
  rw [hD, hC]
  generalize hH : (H2.push { cls := .type "dict", data := .dict #[] }).push { cls := .type "cell", data := .cell none } = H
  have keep : ∀ b o, s₁.heap.get? b = some o → H.get? b = some o := fun b o e => by
    rw [← hH, ← hH2]
    exact Heap.get?_push_of_some _ (Heap.get?_push_of_some _ (Heap.get?_push_of_some _ (Heap.get?_push_of_some _ e)))
  have gI : H.get? I = some { cls := .type "range_iterator", data := .fields #[rawInt 0, rawInt (Builtin.Range.rangeSize 0 b 1), rawInt 1] } := by
    rw [← hH, ← hH2, ← hI]
    exact Heap.get?_push_of_some _ (Heap.get?_push_of_some _ (Heap.get?_push_of_some _ (Heap.get?_push_size _ rfl)))
  have gD : H.get? (I + 1) = some (LCg.lst []) := by
    rw [← hH, ← hH2, ← hD]
    exact Heap.get?_push_of_some _ (Heap.get?_push_of_some _ (Heap.get?_push_size _ rfl))
  have gC : H.Ns (I + 1 + 1) (fun _ => none) := by
    refine ⟨{ cls := .type "dict", data := .dict #[] }, #[], 0, ?_, rfl, ?_, fun _ => rfl⟩
    · rw [← hH, ← hC]
      exact Heap.get?_push_of_some _ (Heap.get?_push_size _ rfl)
    · intro e he; simp at he
  have gc : H.get? (I + 1 + 1 + 1) = some { cls := .type "cell", data := .cell none } := by
    have : (H2.push { cls := .type "dict", data := .dict #[] }).objs.size = I + 1 + 1 + 1 := by rw [Heap.size_push, hC]
    rw [← hH, ← this]
    exact Heap.get?_push_size _ rfl
  have no₀ : ∀ a, I ≤ a → h₀.get? a = none := fun a ha => by
    cases e : h₀.get? a with
    | none => rfl
    | some o => exact absurd (Heap.lt_size (F.keep a o e)) (by rw [hI]; exact Nat.not_lt.mpr ha)
  have ltI : ∀ p ∈ news, @LT.lt Nat _ p.1 I := fun p hp => hI ▸ Heap.lt_size (N p hp).1
  clear hH hH2 hD hC
  have loop : ∀ sx : Shared, (∃ tk, sx = { s₁ with heap := H, toks := tk }) →
      codeAny (model prog w) A (.compLoop (.ListComp elt [⟨.Name x px, iter, [], 0⟩] scope pos) 0 (.ref I) (.ref (I + 1)) (compEnvC scope ((x, I + 1 + 1 + 1) :: cl) (I + 1 + 1) env)) (compPost (model prog w) A E none Q (.ref (I + 1)) (I + 1 + 1)) sx := by
    rintro sx ⟨tk0, rfl⟩
    refine codeAny_compLoop_list (fun k s' => ∃ (h' : Heap) (tk i : Nat) (ys : List Value) (tl : Led) (m' : Str → Option Value) (oc : Obj) (vc : Option Value), s' = { s₁ with heap := h', toks := tk } ∧ i ≤ b ∧ k = b + 1 - i ∧ IsRangeIter h' I (0 + (i : Nat) * 1) ((b : Int) - (i : Nat)) 1 ∧ Fr h₀ L h' m ∧ h'.Ns (I + 1 + 1) m' ∧
      News h₀ L h' ((I + 1, LCg.lst ys) :: (I + 1 + 1 + 1, oc) :: (tl ++ news)) ∧ oc.data = .cell vc ∧ (∀ p ∈ tl ++ news, p.1 ≠ I ∧ p.1 ≠ I + 1 + 1 ∧ p.1 ≠ I + 1 ∧ p.1 ≠ I + 1 + 1 + 1) ∧ J i ys tl ∧ ys.length = i) ?_ (b + 1) ?_
    · rintro k s' ⟨h', tk, i, ys, tl, m', oc, vc, rfl, hi, rfl, hst, F', hC', N', hoc, off, hJ, hyl⟩
      by_cases hlt : i < b
      · refine W.item i _ _ _ hlt hst fun v h₁ tk₁ hP hst₁ hk₁ => ?_
        obtain ⟨ti, rfl⟩ := hP
        have ne1 : ∀ {a : Addr}, a ≠ I → a ∉ [I] := fun h hm => h (List.mem_singleton.mp hm)
        have hDI : @Ne Nat (I + 1) I := Nat.succ_ne_self _
        have hCI : @Ne Nat (I + 1 + 1) I := by omega
        have hcI : @Ne Nat (I + 1 + 1 + 1) I := by omega
        have N₁ : News h₀ L h₁ ((I + 1, LCg.lst ys) :: (I + 1 + 1 + 1, oc) :: (tl ++ news)) := fun p hp => ⟨hk₁ _ _ (ne1 (by
          rcases List.mem_cons.mp hp with rfl | hp
          · exact hDI
          rcases List.mem_cons.mp hp with rfl | hp
          · exact hcI
          · exact (off p hp).1)) (N' p hp).1, (N' p hp).2⟩
        have F₁ : Fr h₀ L h₁ m := ⟨F'.ns.at' fun o e => hk₁ _ o (ne1 (Nat.ne_of_lt hL)) e, fun b o e => hk₁ b o (ne1 fun q => by rw [q, no₀ I (Nat.le_refl _)] at e; cases e) (F'.keep b o e), F'.above⟩
        refine wpAny_assign_Name (wpAny_storeName_cell (v₀ := vc) hkind (hkx (I + 1 + 1 + 1) (I + 1 + 1)) (by show List.lookup x ((x, I + 1 + 1 + 1) :: cl) = _; simp) ⟨oc, (N₁ _ (.tail _ (.head _))).1, hoc⟩ fun h₂ hv₂ hs₂ => ?_)
        replace hs₂ : Heap.SameBut (I + 1 + 1 + 1) h₁ h₂ := hs₂
        obtain ⟨oc₂, hoc₂, hod₂⟩ := hv₂
        have up₂ : ∀ b o, b ≠ I + 1 + 1 + 1 → h₁.get? b = some o → h₂.get? b = some o := fun b o hb e => hs₂.extBut b o hb e
        have hLc : L ≠ I + 1 + 1 + 1 := Nat.ne_of_lt (by omega)
        have F₂ : Fr h₀ L h₂ m := ⟨F₁.ns.at' fun o e => up₂ _ o hLc e, fun b o e => up₂ b o (fun q => by rw [q, no₀ _ (by show I ≤ _; omega)] at e; cases e) (F₁.keep b o e), F₁.above⟩
        obtain ⟨oI, hoI⟩ : ∃ oI, h₂.get? I = some oI := ⟨_, up₂ I _ (Ne.symm hcI) hst₁⟩
        have hC₂ : h₂.Ns (I + 1 + 1) m' := (hC'.at' fun o e => hk₁ _ o (ne1 hCI) e).at' fun o e => up₂ _ o (by show @Ne Nat _ _; omega) e
        obtain ⟨oC, hoC, hnC⟩ := LCg.ns_obj hC₂
        have N₂ : News h₀ L h₂ ((I, oI) :: (I + 1 + 1, oC) :: (I + 1, LCg.lst ys) :: (I + 1 + 1 + 1, oc₂) :: (tl ++ news)) := fun p hp => by
          rcases List.mem_cons.mp hp with rfl | hp
          · exact ⟨hoI, Nat.ne_of_gt hL, no₀ _ (Nat.le_refl _)⟩
          rcases List.mem_cons.mp hp with rfl | hp
          · exact ⟨hoC, Nat.ne_of_gt (by show @LT.lt Nat _ _ _; omega), no₀ _ (by show I ≤ _; omega)⟩
          rcases List.mem_cons.mp hp with rfl | hp
          · exact ⟨up₂ _ _ (by show @Ne Nat _ _; omega) (N₁ _ (.head _)).1, (N₁ _ (.head _)).2⟩
          rcases List.mem_cons.mp hp with rfl | hp
          · exact ⟨hoc₂, Ne.symm hLc, no₀ _ (by show I ≤ _; omega)⟩
          · have z := N₁ p (.tail _ (.tail _ hp))
            exact ⟨up₂ _ _ (off p hp).2.2.2 z.1, z.2⟩
        refine wpAny_mono (turn h₂ i ys tl ti I oI (I + 1 + 1) oC (I + 1) (I + 1 + 1 + 1) oc₂ h₂ tk₁ _ hlt hJ hod₂ F₂ N₂ (fun p hp => off p hp) ⟨by show @Ne Nat _ _; omega, by show @Ne Nat _ _; omega, by show @Ne Nat _ _; omega, by show @Ne Nat _ _; omega, by show @Ne Nat _ _; omega, by show @Ne Nat _ _; omega⟩) (fun y s₃ q => ?_) fun _ _ e => e
        obtain ⟨h₃, tk₃, tl₃, rfl, F₃, N₃, o₃, hJ₃⟩ := q
        refine append_at (its := ys.toArray) (n := ys.length) (N₃ _ (.tail _ (.tail _ (.head _)))).1 (fun h₄ hs₄ ho₄ => ?_) (by rw [List.size_toArray, sizeLine_eq]; omega)
        replace hs₄ : Heap.SameBut (I + 1) h₃ h₄ := hs₄
        have up₄ : ∀ b o, b ≠ I + 1 → h₃.get? b = some o → h₄.get? b = some o := fun b o hb e => hs₄.extBut b o hb e
        have off₃ : ∀ p ∈ tl₃ ++ news, p.1 ≠ I ∧ p.1 ≠ I + 1 + 1 ∧ p.1 ≠ I + 1 ∧ p.1 ≠ I + 1 + 1 + 1 := fun p hp => (List.mem_append.mp hp).elim (fun q => o₃ p q) fun q => off p (List.mem_append.mpr (.inr q))
        have hLD : L ≠ I + 1 := Nat.ne_of_lt (by omega)
        refine ⟨b + 1 - (i + 1), by omega, h₄, tk₃, i + 1, ys ++ [y], tl₃, m', oc₂, _, rfl, hlt, rfl, ?_, ?_, ?_, ?_, hod₂, off₃, hJ₃, by rw [List.length_append, hyl]; rfl⟩
        · refine W.frame _ _ _ hst₁ fun a ha o e => ?_
          have ha' := List.mem_singleton.mp ha
          subst ha'
          have e2 := up₂ a o (Ne.symm hcI) e
          rw [hoI] at e2
          cases e2
          exact up₄ _ _ (Ne.symm hDI) (N₃ _ (.head _)).1
        · exact ⟨F₃.ns.at' fun o e => up₄ _ o hLD e, fun b o e => up₄ b o (fun q => by rw [q, no₀ _ (by show I ≤ _; omega)] at e; cases e) (F₃.keep b o e), F₃.above⟩
        · exact (hnC.ns (N₃ _ (.tail _ (.head _))).1).at' fun o e => up₄ _ o (by show @Ne Nat _ _; omega) e
        · intro p hp
          rcases List.mem_cons.mp hp with rfl | hp
          · exact ⟨by rw [← LCg.lst_snoc]; exact ho₄, (N₃ _ (.tail _ (.tail _ (.head _)))).2⟩
          rcases List.mem_cons.mp hp with rfl | hp
          · have z := N₃ _ (.tail _ (.tail _ (.tail _ (.head _))))
            exact ⟨up₄ _ _ (by show @Ne Nat _ _; omega) z.1, z.2⟩
          · have z := N₃ _ (.tail _ (.tail _ (.tail _ (.tail _ hp))))
            exact ⟨up₄ _ _ (off₃ p hp).2.2.1 z.1, z.2⟩
      · have hib : i = b := by omega
        subst hib
        refine W.done _ _ _ hst fun h₁ tk₁ hk₁ => ?_
        have ne1 : ∀ {a : Addr}, a ≠ I → a ∉ [I] := fun h hm => h (List.mem_singleton.mp hm)
        refine ⟨m', hC'.at' fun o e => hk₁ _ o (ne1 (by show @Ne Nat _ _; omega)) e, fun h₂ hs₂ => ?_⟩
        replace hs₂ : Heap.SameBut (I + 1 + 1) h₁ h₂ := hs₂
        have up : ∀ b o, b ≠ I → b ≠ I + 1 + 1 → h'.get? b = some o → h₂.get? b = some o := fun b o h1 h2 e => hs₂.extBut b o h2 (hk₁ b o (ne1 h1) e)
        refine done (I + 1) h₂ tk₁ ys tl hJ ⟨F'.ns.at' fun o e => up _ o (Nat.ne_of_lt hL) (Nat.ne_of_lt (by omega)) e, fun b o e => up b o (fun q => by rw [q, no₀ _ (Nat.le_refl _)] at e; cases e) (fun q => by rw [q, no₀ _ (by show I ≤ _; omega)] at e; cases e) (F'.keep b o e), F'.above⟩ ?_ fun p hp => (off p hp).2.2.1
        intro p hp
        rcases List.mem_cons.mp hp with rfl | hp
        · have z := N' _ (.head _)
          exact ⟨up _ _ (by show @Ne Nat _ _; omega) (by show @Ne Nat _ _; omega) z.1, z.2⟩
        · have z := N' _ (.tail _ (.tail _ hp))
          exact ⟨up _ _ (off p hp).1 (off p hp).2.1 z.1, z.2⟩
    · refine ⟨H, tk0, 0, [], [], _, { cls := .type "cell", data := .cell none }, none, rfl, Nat.zero_le _, rfl, ?_, F.keeps keep, gC, ?_, rfl, ?_, h0, rfl⟩
      · show H.get? I = _
        rw [gI, rangeSize_nat]; simp
      · intro p hp
        rcases List.mem_cons.mp hp with rfl | hp
        · exact ⟨gD, Nat.ne_of_gt (by show @LT.lt Nat _ _ _; omega), no₀ _ (by show I ≤ _; omega)⟩
        rcases List.mem_cons.mp hp with rfl | hp
        · exact ⟨gc, Nat.ne_of_gt (by show @LT.lt Nat _ _ _; omega), no₀ _ (by show I ≤ _; omega)⟩
        · exact ⟨keep _ _ (N p hp).1, (N p hp).2⟩
      · intro p hp
        have := ltI p hp
        exact ⟨Nat.ne_of_lt this, Nat.ne_of_lt (by omega), Nat.ne_of_lt (by omega), Nat.ne_of_lt (by omega)⟩
  exact codeAny_compStart_list (loop _ ⟨_, rfl⟩) (W.self 0 _ _ _ (by show H.get? I = _; rw [gI, rangeSize_nat]; simp) (loop _ ⟨_, rfl⟩))
end
end Mine
end
section
open PySem PySem.W PySem.Spec PySem.Calls PyProof.Rows
set_option maxHeartbeats 2000000
namespace Mine
theorem regL : (fun (_ : OpenLaw) (_ : Params → Frag) => True) PySem.Challenge.rw_sn0085_01 Mine.K := by
  k_fill
  exact trivial
/-- an old object after the law's run: as it was, or a code's own table that has grown -/
theorem old_after {h h' : Heap} {tabs : List (Addr × Addr)} (hT : TabsAt tabs h) (kept : ∀ b o, (ghostOf h tabs).get? b = some o → h'.get? b = some o) (grown : GrownAll tabs h') {b : Addr} {o : Obj} (e : h.get? b = some o) :
    h'.get? b = some o ∨ (isCodeTable h b ∧ o = tabObj #[] ∧ ∃ ps, h'.get? b = some (tabObj ps)) := by
  refine (Classical.em (b ∈ tabs.map (·.2))).elim (fun isTab => .inr ?_) fun noTab => .inl (kept b o (ghost_ne e noTab))
  obtain ⟨q, hq, hqb⟩ := List.mem_map.mp isTab
  subst hqb
  obtain ⟨code, tab⟩ := hT q hq
  exact ⟨(code.tab tab).isCodeTable, Option.some.inj (e.symm.trans tab), grown.get q hq⟩
theorem law_post {M : Model} {A : Around} {cd : Code} {s s₁ : Shared} {cw : ClaimW} {cl : Str → Option Addr} {mean : ExcName → Option Value} {args : List WData} {tabs : List (Addr × Addr)} (hT : TabsAt tabs s₁.heap) (hr : ∀ a x, cw.raises a x = false)
    (hp : cw.post args (.bool true) args = true)
    (h : codeAny M A cd (fun r s' => r = .ok (.ret (.bool true)) ∧ (∀ b o, (ghostOf s₁.heap tabs).get? b = some o → s'.heap.get? b = some o) ∧ s'.os = s₁.os ∧ AllBare s'.gens ∧ GrownAll tabs s'.heap) s) : codeAny M A cd (GoodWG cw cl mean args s₁) s := by
  refine codeAny_mono h ?_
  rintro _ s' ⟨rfl, kept, hos, bare, grown⟩
  have told : ∀ a ∈ ([] : List Addr), s₁.heap.get? a = none := fun _ h => nomatch h
  refine ⟨.inl ⟨_, _, [], rfl, hr args, .bool true, hp, fun _ => ⟨.nil, told⟩⟩, ⟨fun b o e => ?_, fun b o e => ?_⟩, hos, bare⟩
  · exact (old_after hT kept grown e).imp id fun ⟨isTab, isNew, ps, now⟩ => .inl ⟨isTab, isNew ▸ ⟨rfl, #[], ps, rfl, (Array.empty_append (xs := ps)).symm ▸ now⟩⟩
  · exact (old_after hT kept grown e).elim (fun now => ⟨o, now⟩) fun ⟨_, _, ps, now⟩ => ⟨_, now⟩
noncomputable abbrev lawEnv (L fa : Addr) : Env := envOfC (Str.ofString "law") lawSc L fa (.ref 219)
noncomputable abbrev lawA (L fa : Addr) : Around := callerA.deeper (lawEnv L fa)
noncomputable abbrev pairD (q : Nat × Str) : Dat := .tuple [.str ⟨#[q.1]⟩, .str q.2]
end Mine
end
section
open PySem PySem.W PySem.Spec PySem.Calls PyProof.Rows
namespace Mine
section
variable {prog : Program} {w : World} {A : Around} {E : Value → Shared → Prop} {s : Shared} {h₀ : Heap} {L : Addr} {m : Str → Option Value} {news : Led}
/-- the end of a range's laying out: a list of its numbers -/
noncomputable def LaidOut (s : Shared) (a : Int) (n : Nat) (res : Result) (s' : Shared) : Prop :=
  ∃ S h' tk acc c, res = .ok (.ret (.ref S)) ∧ s' = { s with heap := h', toks := tk } ∧ (∀ b o, s.heap.get? b = some o → h'.get? b = some o) ∧ h'.get? S = some { cls := .type "list", dict := none, data := .seq acc c, slots := #[] } ∧ ItemsOf (fun i v => ∃ t, v = .int (a + i * 1) t) acc n
theorem rng_listed {r : Addr} {a b : Int} {t u v : Tok} {n : Nat} (hh : A.handled = none) (hr : IsRange s.heap r a b 1 t u v) (hsmall : Builtin.Range.small a b 1 = true) (hn : Builtin.Range.rangeSize a b 1 = n) (hlen : n ≤ 2 ^ 24) :
    codeAny (model prog w) A (.builtin "proto.collect" ⟨[.ref r], []⟩) (LaidOut s a n) s := by
  refine codeAny_builtin entry_proto_collect' ?_
  unfold Builtin.«proto.collect»
  refine wpAny_bind (wpAny_newList (wpAny_pure ⟨Code.quiet_builtin _ (by decide +kernel), codeAny_builtin entry_list_iadd' ?_⟩))
  rw [Around.under_plainId F.plain_list_iadd _]
  exact wpAny_extend_range (R := LaidOut s a n) (s := { s with heap := s.heap.push (seqObj "list" #[] 0) }) (A := A) hh (Heap.get?_push_of_some _ hr) hsmall hn hlen s.heap.objs.size (.ref s.heap.objs.size) 0 (Heap.get?_push_size _ rfl) fun h' tk acc c hk hS items =>
    ⟨_, h', tk, acc, c, rfl, rfl, fun b o e => hk b o (Nat.ne_of_lt (Heap.lt_size e)) (Heap.get?_push_of_some _ e), hS, items⟩
theorem collect_rng {r : Addr} {a b : Int} {t u v : Tok} {n : Nat} {Q : List Value → Shared → Prop} (hh : A.handled = none) (hr : IsRange s.heap r a b 1 t u v) (hsmall : Builtin.Range.small a b 1 = true) (hn : Builtin.Range.rangeSize a b 1 = n) (hlen : n ≤ 2 ^ 24)
    (h : ∀ h' tk acc, (∀ b o, s.heap.get? b = some o → h'.get? b = some o) → ItemsOf (fun i v => ∃ t, v = .int (a + i * 1) t) acc n → Q acc.toList { s with heap := h', toks := tk }) :
    wpAny (model prog w) A (collect (.ref r)) Q E s := by
  unfold collect
  refine wpAny_bind (wpAny_runValue (codeAny_mono (rng_listed hh hr hsmall hn hlen) ?_))
  rintro _ _ ⟨S, h', tk, acc, c, rfl, rfl, keep, hS, items⟩
  exact wpAny_bind (wpAny_load hS (wpAny_pure (h h' tk acc keep items)))
theorem ints_items : ∀ (vs : List Value) (ns : List Int), vs.length = ns.length → (∀ i v, vs[i]? = some v → ∃ t, v = Value.int (ns.getD i 0) t) → IntsAre vs ns
  | [], [], _, _ => .nil
  | [], _ :: _, h, _ => by cases h
  | _ :: _, [], h, _ => by cases h
  | v :: vs, n :: ns, h, hv => by
    obtain ⟨t, e⟩ := hv 0 v rfl
    have e' : v = Value.int n t := e
    subst e'
    exact .cons _ _ (ints_items vs ns (by simpa using h) fun i w hw => by
      obtain ⟨t, e⟩ := hv (i + 1) w (by simpa using hw)
      exact ⟨t, by simpa using e⟩)
/-- a list of the ledger's heap is sorted by a key, in place -/
theorem sort_at {l : Addr} {vs : List Value} {n : Nat} {b : Bool} {kz : List Int} {f : Value} {kw : List (Str × Value)} {Q : Value → Shared → Prop} (F : Fr h₀ L s.heap m) (N : News h₀ L s.heap news) (ho : s.heap.get? l = some (seqObj "list" vs.toArray n)) (hl : L < l) (hl0 : h₀.get? l = none) (hln : ∀ p ∈ news, p.1 < l)
    (hlen : kz.length = vs.length) (h64 : vs.length < 64) (ha : argsOk "list.sort" ⟨[.ref l], kw⟩) (ht : Builtin.«list.sort» ⟨[.ref l], kw⟩ = ksk_tree l f b)
    (turn : ∀ (i : Nat) (v : Value) (k : Int), vs[i]? = some v → kz[i]? = some k → ∀ (h : Heap) (tk : Nat) (own : List (Addr × Obj)), Fr h₀ L h m → News h₀ L h (news ++ own) →
      wpAny (model prog w) A.in1 (call f [v]) (KskEnd h₀ L m (news ++ own) k { s with heap := h, toks := tk }) (fun _ _ => False) { s with heap := h, toks := tk })
    (h : ∀ h' tk out c, Fr h₀ L h' m → News h₀ L h' ((l, seqObj "list" out c) :: news) → KskOut b kz vs out.toList → Q .none { s with heap := h', toks := tk }) :
    wpAny (model prog w) A (call (.builtin "list.sort") [.ref l] kw) Q E s :=
  wpAny_call_entry_kw slot_list_sort ⟨_, ho, rfl⟩ entry_list_sort (ht ▸ ksk_sort F N ho (Nat.ne_of_gt hl) hl0 (fun p hp => Nat.ne_of_lt (hln p hp)) hlen h64 turn fun h' tk out c F' N' k => ⟨_, rfl, h h' tk out c F' N' k⟩) ha
theorem sorted_rng {r : Addr} {n : Nat} {t u v : Tok} {b : Bool} {kz : List Int} {f : Value} {kw : List (Str × Value)} {Q : Value → Shared → Prop} (hh : A.handled = none) (F : Fr h₀ L s.heap m) (N : News h₀ L s.heap news) (hr : IsRange s.heap r 0 n 1 t u v) (hlen : kz.length = n) (h64 : n < 64)
    (ha1 : argsOk "sorted" ⟨[.ref r], kw⟩) (ha2 : ∀ x, argsOk "list.sort" ⟨[.ref x], kw⟩) (ht : ∀ x, Builtin.«list.sort» ⟨[.ref x], kw⟩ = ksk_tree x f b)
    (turn : ∀ (i : Nat) (t : Tok) (k : Int), i < n → kz[i]? = some k → ∀ (h : Heap) (tk : Nat) (own : List (Addr × Obj)), Fr h₀ L h m → News h₀ L h (news ++ own) →
      wpAny (model prog w) A.in1.in1 (call f [.int (i : Int) t]) (KskEnd h₀ L m (news ++ own) k { s with heap := h, toks := tk }) (fun _ _ => False) { s with heap := h, toks := tk })
    (h : ∀ D h' tk out c vs, IntsAre vs ((List.range n).map fun i : Nat => (i : Int)) → Fr h₀ L h' m → News h₀ L h' ((D, seqObj "list" out c) :: news) → (∀ q ∈ news, q.1 < D) → KskOut b kz vs out.toList → Q (.ref D) { s with heap := h', toks := tk }) :
    wpAny (model prog w) A (call (.builtin "sorted") [.ref r] kw) Q E s := by
  refine call_function_entry_kw kind_sorted plain_sorted entry_sorted ha1 ?_
  unfold Builtin.«sorted»
  refine wpAny_bind (m := checkCount "sorted" 1 1 _) (wpAny_pure ?_)
  refine wpAny_bind (collect_rng (n := n) hh hr (small_one (by decide) (by decide) (by omega) (by omega)) (by rw [rangeSize_nat]; congr 1) (by omega) fun h1 tk1 acc keep1 hacc => ?_)
  obtain ⟨hal, hai⟩ := hacc
  have F1 : Fr h₀ L h1 m := F.kept keep1
  have N1 : News h₀ L h1 news := N.grown keep1
  have hvl : acc.toList.length = n := by rw [Array.length_toList]; exact hal
  have hvi : IntsAre acc.toList ((List.range n).map fun i : Nat => (i : Int)) := by
    refine ints_items _ _ (by rw [hvl, List.length_map, List.length_range]) fun i v hv => ?_
    have hi : i < n := by rw [← hvl]; exact (List.getElem?_eq_some_iff.mp hv).1
    rw [Array.getElem?_toList] at hv
    obtain ⟨t, e⟩ := hai i v hv
    refine ⟨t, ?_⟩
    rw [List.getD_eq_getElem?_getD, List.getElem?_map, List.getElem?_range hi, e]
    congr 1; show 0 + (i : Int) * 1 = (i : Int); omega
  have isNew : h₀.get? h1.objs.size = none := Heap.get?_none_of_le (Nat.le_trans F1.above (Nat.le_of_lt F1.ns.lt))
  have below : ∀ q ∈ news, q.1 < h1.objs.size := fun q hq => Heap.lt_size (N1 q hq).1
  refine wpAny_bind (wpAny_newList (wpAny_bind (wpAny_holding ?_)) (by rw [hvl, sizeLine_eq]; omega))
  refine sort_at (A := A.in1) (vs := acc.toList) (F1.push _) (N1.grown fun b o q => Heap.get?_push_of_some _ q) (Heap.get?_push_size _ rfl) F1.ns.lt isNew below (hlen.trans hvl.symm) (by omega) (ha2 _) (ht _) (fun i v k hv hk h tk own F' N' => ?_)
    fun h' tk out c F' N' k' => wpAny_pure ⟨_, rfl, h _ h' tk out c _ hvi F' N' below k'⟩
  rw [Array.getElem?_toList] at hv
  obtain ⟨t, e⟩ := hai i v hv
  rw [show (0 : Int) + (i : Int) * 1 = (i : Int) by omega] at e
  subst e
  exact turn i t k (by rw [← hvl]; exact (List.getElem?_eq_some_iff.mp (Array.getElem?_toList ▸ hv)).1) hk h tk own F' N'
end
theorem sort_uniq {g : Int → Int} : ∀ (xs ys : List Int), xs.Perm ys → xs.Pairwise (fun x y => g x ≤ g y) → ys.Pairwise (fun x y => g x < g y) → xs = ys
  | xs, [], hp, _, _ => hp.eq_nil
  | [], y :: ys, hp, _, _ => hp.symm.eq_nil.symm
  | x :: xs, y :: ys, hp, h1, h2 => by
    obtain ⟨a1, a2⟩ := List.pairwise_cons.mp h1
    obtain ⟨b1, b2⟩ := List.pairwise_cons.mp h2
    by_cases e : x = y
    · subst e
      rw [sort_uniq xs ys hp.cons_inv a2 b2]
    · exfalso
      have hx : x ∈ ys := by
        have : x ∈ y :: ys := hp.mem_iff.mp (List.mem_cons_self ..)
        exact (List.mem_cons.mp this).resolve_left e
      have hy : y ∈ xs := by
        have : y ∈ x :: xs := hp.mem_iff.mpr (List.mem_cons_self ..)
        exact (List.mem_cons.mp this).resolve_left fun q => e q.symm
      exact absurd (b1 x hx) (Int.not_lt.mpr (a1 y hy))
theorem zip_keys (g : Int → Int) : ∀ {vs : List Value} {ns : List Int}, IntsAre vs ns → (ns.map g).zip vs = vs.map fun v => (g (numOf v), v)
  | _, _, .nil => rfl
  | _, _, .cons n t h => congrArg (List.cons (g n, Value.int n t)) (zip_keys g h)
/-- a sort by a key gives the one order in which the keys climb -/
theorem ksk_order {g : Int → Int} {vs out : List Value} {ns o : List Int} (hi : IntsAre vs ns) (ko : KskOut false (ns.map g) vs out) (ho : o.Perm ns) (hs : o.Pairwise (fun x y => g x < g y)) : IntsAre out o := by
  obtain ⟨ps, hp, rfl, climbs⟩ := ko
  rw [zip_keys g hi] at hp
  have keyed : ∀ p ∈ ps, p.1 = g (numOf p.2) := fun p h => by
    obtain ⟨v, _, rfl⟩ := List.mem_map.mp (hp.subset h)
    rfl
  have same : (ps.map Prod.snd).Perm vs := by
    have h1 := hp.map Prod.snd
    rwa [List.map_map, show Prod.snd ∘ (fun v : Value => (g (numOf v), v)) = id from rfl, List.map_id] at h1
  have nums : ((ps.map Prod.snd).map numOf).Perm o := (hi.nums ▸ same.map numOf).trans ho.symm
  have order : ((ps.map Prod.snd).map numOf).Pairwise (fun x y => g x ≤ g y) := by
    simp only [List.pairwise_map]
    exact climbs.imp_of_mem fun {p q} h1 h2 h3 => keyed p h1 ▸ keyed q h2 ▸ h3
  rw [← sort_uniq _ _ nums order hs]
  exact intsAre_map _ fun v hv => hi.all v (same.subset hv)
end Mine
end
section
open PySem PySem.W PySem.Spec PySem.Calls PyProof.Rows
set_option maxHeartbeats 4000000
namespace Mine
theorem regB : (fun (_ : OpenLaw) (_ : Params → Frag) => True) PySem.Challenge.rw_sn0085_01 Mine.K := by
  k_fill
  exact trivial
/-- what _law_prepared makes of a sign -/
noncomputable def Preps (P : Params) (c : Nat) (x : Str) : Prop := (b1S P c = true ∧ x = Str.ofString "") ∨ (b1S P c = false ∧ Maps P c x)
theorem prep_spec {w p loose mean mg mb} (c : Nat) (x : Str) (t : Tok) (hx : Preps w.params c x) (news : Led) : CallD w p loose mean mg mb 201 2 24 news [.str ⟨#[c]⟩ t] (fun tl r => tl = [] ∧ ∃ t, r = .str x t) := by
  k_with_none
  (k_with "mine call" => ( (case k1 => k_asm); (case k2 => k_asm); (case k3 => k_asm); (case k4 => k_asm); (case k5 => k_asm); (case k6 => first | exact rfl | assumption); (case k7 => first | omega | ktr_room); (case k8 => first | omega | ktr_units); k_whole))
  (k_with "call ref" => (k_here; (with_reducible show wpAny _ _ (call (Value.ref 134) _) _ _ _); k_dflt (refine' callD_use (b1_spec _ _ _) ?k1 ?k2 ?k3 ?k4 ?k5 ?k6 ?k7 ?k8 ?_; walk_at "mine call"); walk_at "mine tail3"))
  (k_with "call ref" => (k_here; (with_reducible show wpAny _ _ (call (Value.ref 180) _) _ _ _); k_dflt (refine' callD_use (b3_spec _ _ _ (by assumption) _) ?k1 ?k2 ?k3 ?k4 ?k5 ?k6 ?k7 ?k8 ?_; walk_at "mine call"); walk_at "mine tail2"))
  intro dp un gd cn cs a ccd cl outer A₀ base h₀ L m s Q E B F X N T hk hd hu hret
  rcases hx with ⟨hx, rfl⟩ | ⟨hx, hm⟩
  · refine wpAny_call ?_
    k_dflt ktr_enter
    conv in (occs := *) fnBody _ => all_goals whnf
    conv in (occs := *) fnScope _ => all_goals whnf
    conv in (occs := *) fnArgs _ => all_goals whnf
    k_steps
    exact hret _ [] _ _ (by k_asm) (by k_asm) ord_nil ⟨rfl, _, rfl⟩
  · refine wpAny_call ?_
    k_dflt ktr_enter
    conv in (occs := *) fnBody _ => all_goals whnf
    conv in (occs := *) fnScope _ => all_goals whnf
    conv in (occs := *) fnArgs _ => all_goals whnf
    k_steps
    exact hret _ [] _ _ (by k_asm) (by k_asm) ord_nil ⟨rfl, _, rfl⟩
end Mine
end
theorem Mine.clean14 : True := by
  k_with_none
  trivial
section
open PySem PySem.W PySem.Spec PySem.Calls PyProof.Rows
set_option maxHeartbeats 4000000
namespace Mine
theorem regJ : (fun (_ : OpenLaw) (_ : Params → Frag) => True) PySem.Challenge.rw_sn0085_01 Mine.K := by
  k_fill
  exact trivial
theorem iter_call {w : World} {p : Program} {loose : List Str} {mean : ExcName → Option Value} {mg mb : Str → Option Value} {news : Led} {x : Str} {tx : Tok}
    {dp un : Nat} {gd : Option (List Code)} {cn : Str} {cs : Scope} {a : Addr} {ccd : Value} {cl : List (Str × Addr)} {outer : List Env} {A₀ : Around} {base h₀ : Heap} {L : Addr} {m : Str → Option Value} {s : Shared} {Q E : Value → Shared → Prop}
    (hx : ∀ c, c ∈ x.cps → c ≠ 92) (B : Below A₀ base outer h₀) (F : Fr h₀ L s.heap m) (X : (Mine.K w.params).In h₀) (N : News h₀ L s.heap news) (T : Top p loose mean mg mb h₀) (hk : cs.kind = .function) (hd : dp + 3 < recursionLimit)
    (k : ∀ a L2 g h' tk' gs', Fr h₀ L h' m → News h₀ L h' news → (∀ p ∈ news, @LT.lt Nat _ p.1 L2) → @LT.lt Nat _ L L2 → @LT.lt Nat _ L2 a → (AllBare s.gens → AllBare gs') → (∀ B : Around, B.handled = none → GenSt prog w B x L L2 a g 0 { s with heap := h', gens := gs', toks := tk' }) → Q (.ref a) { s with heap := h', gens := gs', toks := tk' }) :
    wpAny (model prog w) (ktrTop dp un gd cn cs L a ccd cl outer) (call (.ref 102) [.str x tx]) Q E s := by
  k_with_none
  (k_with "call type:enumerate" => (k_here; refine stop ?_))
  refine wpAny_call ?_
  have XX := X.keeps F.keep
  k_dflt (refine' gen_def XX (T.nolimit.keeps F.keep) ?look ?hcd ?room ?k1 ?k2 ?_ ?k3 ?k4 ?k5 ?k6; (case look => k_is); (case hcd => k_is); (case room => ktr_room); (case k1 => exact BindsTo.of_eq rfl); (case k2 => exact locs rfl); (case k3 => exact rfl); (case k4 => exact rfl); (case k5 => exact rfl); (case k6 => decide))
  intro h₁ tk o hk₁ hz hns hgen
  have hLs : @LT.lt Nat _ L s.heap.objs.size := F.ns.lt
  have hk₂ : ∀ b o', s.heap.get? b = some o' → (h₁.push o).get? b = some o' := fun b o' e => Heap.get?_push_of_some _ (hk₁ b o' e)
  have F₂ : Fr h₀ L (h₁.push o) m := ⟨F.ns.keeps hk₂, fun b o' e => hk₂ b o' (F.keep b o' e), F.above⟩
  refine k _ s.heap.objs.size s.gens.size _ _ _ F₂ (news_lift N hk₂) (fun p hp => Heap.lt_size (N p hp).1) hLs (by rw [hz]; exact Nat.lt_succ_self _) (fun hb => AllBare.push hb rfl) fun B hB => ⟨hgen, (T.nolimit.keeps F₂.keep), _, Array.getElem?_push_size .., fun s'' hal => ⟨rfl, ?_⟩⟩
  generalize hL2 : s.heap.objs.size = L2 at *
  have hns' : (h₁.push o).Ns L2 (fun y => List.lookup y [(Str.ofString "addr", Value.str x tx)]) := hns.push _
  have FG : Fr h₀ L2 s''.heap (fun y => List.lookup y [(Str.ofString "addr", Value.str x tx)]) :=
    ⟨hns'.at' fun o' e => hal _ o' (Nat.ne_of_gt hLs) e, fun b o' e => hal b o' (fun q => absurd (Heap.lt_size e) (by rw [q]; exact Nat.not_lt.mpr F.above)) (F₂.keep b o' e), Nat.le_trans F.above (Nat.le_of_lt hLs)⟩
  have keep₀ := fun (h' : Heap) (m' : Str → Option Value) (F' : Fr h₀ L2 h' m') (N' : News h₀ L2 h' (ledOf h₀ L2 s''.heap)) => ledOf_keep FG F' N'
  have NG : News h₀ L2 s''.heap (ledOf h₀ L2 s''.heap) := ledOf_news _ _ _
  generalize ledOf h₀ L2 s''.heap = led at NG keep₀
  obtain ⟨og, _, _, hog, _⟩ := hgen
  have hag := hal _ _ (by rw [hz]; exact Nat.ne_of_gt (Nat.lt_succ_of_lt hLs)) hog
  have hLa : @LT.lt Nat _ L2 h₁.objs.size := by rw [hz]; exact Nat.lt_succ_self _
  clear hns hns' F₂ hk₂
  generalize hQ : gR L2 h₁.objs.size = R9
  generalize hY : gY x L L2 h₁.objs.size = Y9
  have hn : x.cps.size - 0 = x.cps.size := Nat.sub_zero _
  rw [hn]
  refine seg_func ?_
  refine g_exec ?_
  k_steps
  refine g_exec ?_
  k_steps
  refine seg_execs_cons (g_for ?_)
  k_steps
  unfold Stop
  refine call_enumerate_str fun h3 he3 hit3 hz3 hk3 => ?_
  refine wpAny_pyIter_enum he3 (fun k p hk => ?_)
  subst hQ hY
  rw [← hn]
  have hag3 := Heap.lt_size (keep₀ _ _ (by assumption) (by assumption) _ _ (Nat.ne_of_gt hLa) hag)
  have hGS : GS L2 h₁.objs.size s'' { s'' with heap := h3, toks := s''.toks + 1 + 1 + 1 } := by
    refine GS.step (GS.refl s'') fun b o' hb q => hk3 _ _ (keep₀ _ _ (by assumption) (by assumption) b o' ?_ q)
    rcases hb with hb | hb
    · exact Nat.ne_of_lt hb
    · exact hb ▸ Nat.ne_of_gt hLa
  refine' gen_loop (env := envOf _ _ L2 102 _) (tx := tx) (esc := Str.ofString "escape") (h₀ := h₀) ?hh ?hpn ?hcn ?hp ?hep ?hec ?hCb ?hCL ?hLa ?hae ?hai ?hei hx ?hend ?hb _ 0 _ _ _ rfl (Nat.zero_le _) ?F ?m ?he ?hit ?hg
  case hh => exact hB
  case hpn => exact rfl
  case hcn => exact rfl
  case hp => exact rfl
  case hep => decide
  case hec => decide
  case hCb => exact F.above
  case hCL => exact hLs
  case hLa => exact hLa
  case F => (refine' fr_lift ?FF hk3; (case FF => k_asm))
  case m => exact rfl
  case he => exact ⟨_, he3⟩
  case hit => exact hit3
  case hai => exact hag3
  case hae => exact Nat.lt_succ_of_lt hag3
  case hg => exact hGS
  case hei => exact Nat.succ_ne_self _
  case hend =>
    intro s₀ s m' F hes hg
    have F' := fr_told [(Str.ofString "escape", .bool false)] (by intro p hp; rw [List.mem_singleton.mp hp]; exact hes) F
    clear F
    refine seg_leaf _ ?_
    rw [hk]
    refine seg_execs_cons (g_if ?_)
    have NN : News h₀ L2 s.heap [] := fun p hp => nomatch hp
    k_steps
    refine seg_execs_nil ?_
    refine seg_execs_nil ?_
    exact seg_end (.ok (.ret .none)) ⟨rfl, rfl, hg⟩
  case hb =>
    intro K9 H9 hK9 n' i c t1 t2 s₀ s m' led F hes hc N fin
    have F' := fr_tell (v := .str ⟨#[c]⟩ t2) (x := Str.ofString "ch") (m := fun y => if y = Str.ofString "pos" then some (.int (i : Nat) t1) else m' y) [(Str.ofString "pos", .int (i : Nat) t1), (Str.ofString "escape", .bool false)] (by intro p hp _; simp only [List.mem_cons, List.not_mem_nil, or_false] at hp; rcases hp with rfl | rfl; exact rfl; exact hes) F
    dsimp only [kstB] at F'
    clear F
    refine seg_execs_cons (g_if ?_)
    k_steps
    have hcs : (Str.ofString "\\" == (⟨#[c]⟩ : Str)) = false := by
      rw [beq_eq_false_iff_ne]; intro q; exact hc (by injection q with q; injection q with q; injection q with q _; exact q.symm)
    have hcs' : ((⟨#[c]⟩ : Str) == Str.ofString "\\") = false := by
      rw [beq_eq_false_iff_ne]; intro q; exact hc (by injection q with q; injection q with q; injection q with q _)
    refine seg_execs_cons (g_if ?_)
    k_steps
    rw [hcs']
    refine seg_execs_cons (seg_Expr_Yield rfl rfl rfl ?_)
    k_steps
    rename_i h9 F9 N9 l9 kap hkap
    skip
    refine fin _ _ _ _ kap F9 rfl (fun p hp => N9 p (.tail _ hp)) ⟨_, rfl, _, (N9 _ (.head _)).1, rfl, _, rfl⟩ fun s9 hs9 => hkap .none s9 ?_
    refine seg_execs_nil ?_
    refine seg_execs_nil ?_
    refine seg_execs_nil (K := K9) (H := H9) (gd := id) (lv := id) ?_
    rw [hK9]
    exact hs9
end Mine
end
theorem Mine.clean15 : True := by
  k_with_none
  trivial
section
open PySem PySem.W PySem.Spec PySem.Calls PyProof.Rows
set_option maxHeartbeats 2000000
namespace Mine
theorem regM10 : (fun (_ : OpenLaw) (_ : Params → Frag) => True) PySem.Challenge.rw_sn0085_01 Mine.K := by
  k_fill
  exact trivial

theorem seg10 {w : World} {p : Program} {loose : List Str} {mean : ExcName → Option Value} {mg mb : Str → Option Value} {L fa da : Addr} {h₀ : Heap} {s : Shared} {m : Str → Option Value} {news : Led} {Q : Flow → Shared → Prop} {E : Value → Shared → Prop} {rest : List Stmt} {ds : List Int} {dv : List Value} {kd : Nat} {ob : Obj} {v₀ : Option Value}
    (Bw : Below callerA h₀ [] h₀) (X : (Mine.K w.params).In h₀) (T : Top p loose mean mg mb h₀) (F : Fr h₀ L s.heap m) (N : News h₀ L s.heap ((L + 1 + 1, ob) :: news)) (hob : ob.data = .cell v₀) (hoff : ∀ p ∈ news, p.1 ≠ L + 1 + 1)
    (hm : m (Str.ofString "drawn") = some (.ref da)) (hd : (da, listOf dv.toArray kd) ∈ news) (hI : IntsAre dv ds) (hl : ds.length = 6) (hb : ∀ d ∈ ds, 0 ≤ d ∧ d < 1000000)
    (k : ∀ (ob' : Obj) (t : Tok) (h' : Heap) (tk : Nat) (m' : Str → Option Value), Fr h₀ L h' m' → News h₀ L h' ((L + 1 + 1, ob') :: news) → ob'.data = .cell (some (.int (ds.sum.fmod 27) t)) → m' = m → wpAny (model prog w) (lawA L fa) (execs rest (lawEnv L fa)) Q E { s with heap := h', toks := tk }) :
    wpAny (model prog w) (lawA L fa) (execs (lawB10 :: rest) (lawEnv L fa)) Q E s := by
  k_with_none
  (k_with "exec Assign cons ListComp" => (k_here; k_dflt (refine LCg.Assign_ListComp_U (F₀ := by k_asm) (by rfl) (by with_unfolding_all rfl) (by with_unfolding_all rfl) (by decide) (by rfl) (by decide) (by rfl) (by rfl) (by rfl) ?_)))
  (k_with "eval ListComp" => (k_here; k_dflt (refine LCg.ListComp_U (F₀ := by k_asm) (by with_unfolding_all rfl) (by decide) (by rfl) (by decide) (by rfl) ?_)))
  (k_with "CompSrc" => (k_here; refine stop ?_))
  (k_with "mine mem" => first | (refine List.mem_cons_of_mem _ ?_; ktr_member) | (refine List.mem_cons_of_mem _ (List.mem_cons_of_mem _ ?_); ktr_member) | (refine List.mem_cons_of_mem _ (List.mem_cons_of_mem _ (List.mem_cons_of_mem _ ?_)); ktr_member))
  (k_with "mine all" => assumption)
  (k_with "call builtin:sum" => (k_here; k_dflt (refine' sumK ?k0 ?k1 ?k2 (News.isList (by assumption) ?k3) (by assumption) ?_; (case k0 => exact rfl); (case k1 => k_asm); (case k2 => k_asm); (case k3 => k_mem); k_whole); intro _ _ _ _ _))
  have F' := fr_told [(Str.ofString "drawn", .ref da)] (by intro p hp; rw [List.mem_singleton.mp hp]; exact hm) F
  dsimp only [kstB] at F'
  clear F
  unfold lawA lawEnv
  conv in (occs := *) lawB10 => all_goals whnf
  conv in (occs := *) lawSc => all_goals whnf
  have hdl := hI.length
  k_steps
  refine k _ _ _ _ _ (by k_asm) (by k_asm) (by assumption) ?_
  funext y
  show (if y = Str.ofString "drawn" then some (Value.ref da) else m y) = _
  rw [kst_one hm y]
end Mine
end
theorem Mine.clean16 : True := by
  k_with_none
  trivial
section
open PySem PySem.W PySem.Spec PySem.Calls PyProof.Rows
set_option maxHeartbeats 4000000
namespace Mine
theorem reg2 : (fun (_ : OpenLaw) (_ : Params → Frag) => True) PySem.Challenge.rw_sn0085_01 Mine.K := by
  k_fill
  exact trivial
noncomputable def word (k : Int) : Str := if k < 10 then ([Str.ofString "OPTIMIZED", Str.ofString "NEWLOCALS", Str.ofString "VARARGS", Str.ofString "VARKEYWORDS", Str.ofString "NESTED", Str.ofString "GENERATOR", Str.ofString "NOFREE", Str.ofString "COROUTINE", Str.ofString "ITERABLE_COROUTINE", Str.ofString "ASYNC_GENERATOR"]).getD k.toNat (Str.ofString "") else
  Str.ofString "0x" ++ Txt.item (Str.ofString "1248") (k.fmod 4) ++ Txt.mul (Str.ofString "0") (k.fdiv 4)
theorem news_tl {h₀ h : Heap} {L : Addr} {a : Addr × Obj} {R : Led} (N : News h₀ L h (a :: R)) : News h₀ L h ([] ++ R) := fun p hp => N p (.tail _ hp)
theorem word_spec {w p loose mean mg mb} (k : Int) (t : Tok) (h0 : 0 ≤ k) (h1 : k < 40) (news : Led) : CallD w p loose mean mg mb 187 2 16 news [.int k t] (fun tl r => tl = [] ∧ ∃ t, r = .str (word k) t) := by
  intro dp un gd cn cs a ccd cl outer A₀ base h₀ L m s Q E B F X N T hk hd hu hret
  have hq1 : 0 ≤ k.fdiv 4 := Int.fdiv_nonneg h0 (by decide)
  have hq2 : k.fdiv 4 < 10 := by rw [Int.fdiv_eq_ediv_of_nonneg _ (by decide)]; omega
  refine wpAny_call ?_
  k_dflt ktr_enter
  conv in (occs := *) fnBody _ => all_goals whnf
  conv in (occs := *) fnScope _ => all_goals whnf
  conv in (occs := *) fnArgs _ => all_goals whnf
  k_steps
  · exact hret _ [] _ _ (by k_asm) (news_tl (by k_asm)) ord_nil ⟨rfl, _, by rw [word, if_pos (by omega)]; rfl⟩
  · exact hret _ [] _ _ (by k_asm) (news_tl (by k_asm)) ord_nil ⟨rfl, _, by rw [word, if_neg (by omega)]⟩
end Mine
end
section
open PySem PySem.W PySem.Spec PySem.Calls PyProof.Rows
set_option maxHeartbeats 4000000
namespace Mine
theorem regK : (fun (_ : OpenLaw) (_ : Params → Frag) => True) PySem.Challenge.rw_sn0085_01 Mine.K := by
  k_fill
  exact trivial
/-- a call that may make generators -/
noncomputable abbrev CallG (w : World) (p : Program) (loose : List Str) (mean : ExcName → Option Value) (mg mb : Str → Option Value) (f : Addr) (dd uu : Nat) (news : Led) (vs : List Value) (post : Led → Value → Prop) : Prop :=
  ∀ (dp un : Nat) (gd : Option (List Code)) (cn : Str) (cs : Scope) (a : Addr) (ccd : Value) (cl : List (Str × Addr)) (outer : List Env) (A₀ : Around) (base h₀ : Heap) (L : Addr) (m : Str → Option Value) (s : Shared) (Q E : Value → Shared → Prop),
    Below A₀ base outer h₀ → Fr h₀ L s.heap m → (Mine.K w.params).In h₀ → News h₀ L s.heap news → Top p loose mean mg mb h₀ → cs.kind = .function → dp + dd < recursionLimit → un + uu < cLine →
    (∀ r tl h' tk' gs', (AllBare s.gens → AllBare gs') → Fr h₀ L h' m → News h₀ L h' (tl ++ news) → (∀ q ∈ news, ∀ p ∈ tl, q.1 < p.1) → post tl r → Q r { s with heap := h', gens := gs', toks := tk' }) →
    wpAny (model prog w) (ktrTop dp un gd cn cs L a ccd cl outer) (call (.ref f) vs) Q E s
theorem no_quote {x : Str} (hx : ∀ c, c ∈ x.cps → c ≠ 34) : Txt.contains x (Str.ofString "\"") = false := by
  unfold Txt.contains
  rw [occ_nil_of_no]
  · rfl
  · intro i hi
    cases q : Builtin.Str.subAt x (Str.ofString "\"") i with
    | false => rfl
    | true =>
      have e : x.cps.extract i (i + 1) = #[34] := eq_of_beq q
      have hl : i < x.cps.size := hi
      have m : (34 : Nat) ∈ x.cps.extract i (i + 1) := by rw [e]; simp
      exact absurd rfl (hx 34 (by
        obtain ⟨k, hk, hk'⟩ := Array.mem_iff_getElem.mp m
        rw [Array.getElem_extract] at hk'
        exact hk' ▸ Array.getElem_mem _))
theorem notin_no {prog : Program} {w : World} {A : Around} {E : Value → Shared → Prop} {s : Shared} {x : Str} {t u : Tok} {Q : Value → Shared → Prop} (hx : ∀ c, c ∈ x.cps → c ≠ 34) (h : Q (.bool true) s) : wpAny (model prog w) A (compareOp .NotIn (.str (Str.ofString "\"") u) (.str x t)) Q E s :=
  PySem.P.notIn_str (by show Q (.bool (!Txt.contains _ _)) s; rw [no_quote hx]; exact h)
theorem strip_spec {w p loose mean mg mb} (x : Str) (t : Tok) (hx : ∀ c, c ∈ x.cps → c ≠ 34) (news : Led) : CallD w p loose mean mg mb 109 2 24 news [.str x t] (fun tl r => tl = [] ∧ r = .str x t) := by
  k_with_none
  (k_with "compareOp NotIn str str" => (k_here; refine notin_no (by assumption) ?_))
  intro dp un gd cn cs L₀ ccd cl outer A₀ base h₀ L m s Q E B F X N T hk hd hu hret
  refine wpAny_call ?_
  k_dflt ktr_enter
  conv in (occs := *) fnBody _ => all_goals whnf
  conv in (occs := *) fnScope _ => all_goals whnf
  conv in (occs := *) fnArgs _ => all_goals whnf
  k_steps
  exact hret _ [] _ _ (by k_asm) (by k_asm) ord_nil ⟨rfl, rfl⟩
/-- what is left of the brackets: o are open -/
noncomputable def parenW : Int → List Nat → Bool
  | o, [] => decide (o = 0)
  | o, c :: r => if c = 40 then parenW (o + 1) r else if c = 41 then (if o - 1 < 0 then false else parenW (o - 1) r) else parenW o r
theorem paren_spec {w p loose mean mg mb} (x : Str) (t : Tok) (hx : ∀ c, c ∈ x.cps → c ≠ 34) (hy : ∀ c, c ∈ x.cps → c ≠ 92) (news : Led) : CallG w p loose mean mg mb 116 4 96 news [.str x t] (fun tl r => tl = [] ∧ r = .bool (parenW 0 x.cps.toList)) := by
  k_with_none
  (k_with "compareOp NotIn str str" => (k_here; refine notin_no (by assumption) ?_))
  (k_with "call ref" => (k_here; (with_reducible show wpAny _ _ (call (Value.ref 109) _) _ _ _); refine stop ?_))
  (k_with "call ref" => (k_here; (with_reducible show wpAny _ _ (call (Value.ref 102) _) _ _ _); refine stop ?_))
  (k_with "exec For Tuple Call cons nil" => (k_here; refine stop ?_))
  intro dp un gd cn cs L₀ ccd cl outer A₀ base h₀ L m s Q E B F X N T hk hd hu hret
  refine wpAny_call ?_
  k_dflt ktr_enter
  conv in (occs := *) fnBody _ => all_goals whnf
  conv in (occs := *) fnScope _ => all_goals whnf
  conv in (occs := *) fnArgs _ => all_goals whnf
  k_steps
  unfold Stop
  refine' callD_use (strip_spec x _ hx _) ?k1 ?k2 ?k3 ?k4 ?k5 ?k6 ?k7 ?k8 ?_
  case k1 => k_asm
  case k2 => k_asm
  case k3 => k_asm
  case k4 => k_asm
  case k5 => k_asm
  case k6 => first | exact rfl | assumption
  case k7 => first | omega | ktr_room
  case k8 => first | omega | ktr_units
  intro r9 tl9 h9 tk9 F9 N9 o9 p9
  obtain ⟨rfl, rfl⟩ := p9
  simp only [List.nil_append] at N9
  k_steps
  unfold Stop
  refine wpAny_For ?_
  k_steps
  unfold Stop
  refine' iter_call hy ?k1 ?k2 ?k3 ?k4 ?k5 ?k6 ?k7 ?_
  case k1 => k_asm
  case k2 => k_asm
  case k3 => k_asm
  case k4 => k_asm
  case k5 => k_asm
  case k6 => first | exact rfl | assumption
  case k7 => first | omega | ktr_room
  intro ag L2 g h8 tk8 gs8 F8 N8 hnl hL2 ha hbare st
  refine wpAny_pyIter_gen (st callerA rfl).1 ?_
  refine' code_gen ?hh ?hroom rfl rfl rfl ?hE hL2 ha ?hc F8 N8 hnl (st _ ?hh2) (fun i m' => ∃ (o : Int) (to : Tok), m' (Str.ofString "opens") = some (.int o to) ∧ 0 ≤ o ∧ o ≤ i ∧ parenW 0 x.cps.toList = parenW o (x.cps.toList.drop i)) ?h0 ?turn ?done
  case h0 => exact ⟨0, _, rfl, Int.le_refl _, Int.le_refl _, rfl⟩
  case hh => exact rfl
  case hh2 => exact rfl
  case hroom => ktr_room
  case hE => passes_own
  case hc => exact (let ⟨_, hn, _⟩ := (by assumption : Top _ _ _ _ _ _).nolimit; hn.lt)
  case turn =>
    rintro i c t1 t2 m₁ led h₃ tk₃ gs₃ hc ⟨o, to, e1, ho0, hoi, hw⟩ hb₃ F₁ N₁
    have F₂ := fr_tell (v := .str ⟨#[c]⟩ t2) (x := Str.ofString "ch") (m := fun y => if y = Str.ofString "pos" then some (.int (i : Nat) t1) else m₁ y) [(Str.ofString "opens", .int o to)] (by intro p hp _; rw [List.mem_singleton.mp hp]; exact e1) F₁
    dsimp only [kstB] at F₂
    clear F₁
    have hd : x.cps.toList.drop i = c :: x.cps.toList.drop (i + 1) := by
      obtain ⟨hi, rfl⟩ := Array.getElem?_eq_some_iff.mp hc
      rw [List.drop_eq_getElem_cons (by simpa using hi)]; simp
    rw [hd] at hw
    have hE1 : c ≠ 40 → ((⟨#[c]⟩ : Str) == Str.ofString "(") = false := fun h => by
      rw [beq_eq_false_iff_ne]; intro q; exact h (by injection q with q; injection q with q; injection q with q _)
    have hE2 : c ≠ 41 → ((⟨#[c]⟩ : Str) == Str.ofString ")") = false := fun h => by
      rw [beq_eq_false_iff_ne]; intro q; exact h (by injection q with q; injection q with q; injection q with q _)
    clear hd
    by_cases h40 : c = 40
    · subst h40
      k_steps
      refine ⟨_, _, _, rfl, by k_asm, by k_asm, o + 1, _, rfl, by omega, by omega, ?_⟩
      rw [hw]; exact if_pos rfl
    · have hE1' := hE1 h40
      by_cases h41 : c = 41
      · subst h41
        k_steps
        · dsimp only [TurnC]
          k_steps
          exact hret _ [] _ _ gs₃ (fun q => hb₃ (hbare q)) (by k_asm) (fun p hp => (by assumption : News _ _ _ (led ++ news)) p (List.mem_append.mpr (.inr hp))) ord_nil ⟨rfl, by rw [hw]; show _ = Value.bool (if (41 : Nat) = 40 then _ else if (41 : Nat) = 41 then _ else _); rw [if_neg (by decide), if_pos rfl, if_pos (by omega)]⟩
        · refine ⟨_, _, _, rfl, by k_asm, by k_asm, o - 1, _, rfl, by omega, by omega, ?_⟩
          rw [hw]
          show (if (41 : Nat) = 40 then _ else if (41 : Nat) = 41 then _ else _) = _
          rw [if_neg (by decide), if_pos rfl, if_neg (by omega)]
      · have hE2' := hE2 h41
        k_steps
        refine ⟨_, _, _, rfl, by k_asm, by k_asm, o, _, rfl, ho0, by omega, ?_⟩
        rw [hw]
        show (if c = 40 then _ else if c = 41 then _ else _) = _
        rw [if_neg h40, if_neg h41]
  case done =>
    rintro m₁ h₃ tk₃ gs₃ ⟨o, to, e1, ho0, hoi, hw⟩ hb₃ F₁ N₁
    have F₂ := fr_told [(Str.ofString "opens", .int o to)] (by intro p hp; rw [List.mem_singleton.mp hp]; exact e1) F₁
    dsimp only [kstB] at F₂
    clear F₁
    have hd : x.cps.toList.drop x.cps.size = [] := by simp
    rw [hd] at hw
    k_steps
    exact hret _ [] _ _ gs₃ (fun q => hb₃ (hbare q)) (by k_asm) (by k_asm) ord_nil ⟨rfl, by rw [hw]; rfl⟩
end Mine
end
theorem Mine.clean18 : True := by
  k_with_none
  trivial
section
open PySem PySem.W PySem.Spec PySem.Calls PyProof.Rows
set_option maxHeartbeats 4000000
namespace Mine
theorem regH : (fun (_ : OpenLaw) (_ : Params → Frag) => True) PySem.Challenge.rw_sn0085_01 Mine.K := by
  k_fill
  exact trivial
noncomputable def waysStep (ways : List (List Int)) (pile : List Int) (node c : Int) : List (List Int) × List Int :=
  (ways ++ [(if pile = [] then [] else ways.getD (pile.getLastD 0).toNat []) ++ [node]], pile.dropLast ++ List.replicate c.toNat node)
noncomputable def waysAt (cs : List Int) : Nat → List (List Int) × List Int
  | 0 => ([], [])
  | i + 1 => waysStep (waysAt cs i).1 (waysAt cs i).2 i (cs.getD i 0)
theorem ways_length (cs : List Int) : ∀ i, (waysAt cs i).1.length = i
  | 0 => rfl
  | i + 1 => by
    show (waysStep (waysAt cs i).1 (waysAt cs i).2 i (cs.getD i 0)).1.length = i + 1
    unfold waysStep
    rw [List.length_append, ways_length cs i]; rfl
theorem cs_bd {cs : List Int} (hc : ∀ c ∈ cs, 0 ≤ c ∧ c ≤ 5) (i : Nat) : 0 ≤ cs.getD i 0 ∧ cs.getD i 0 ≤ 5 := by
  rw [List.getD_eq_getElem?_getD]
  cases h : cs[i]? with
  | none => exact ⟨Int.le_refl 0, by decide⟩
  | some c => exact hc c (List.mem_of_getElem? h)
theorem pile_length {cs : List Int} (hc : ∀ c ∈ cs, 0 ≤ c ∧ c ≤ 5) : ∀ i, (waysAt cs i).2.length ≤ 5 * i
  | 0 => Nat.le_refl _
  | i + 1 => by
    show (waysStep (waysAt cs i).1 (waysAt cs i).2 i (cs.getD i 0)).2.length ≤ _
    have := pile_length hc i
    have := cs_bd hc i
    unfold waysStep
    rw [List.length_append, List.length_dropLast, List.length_replicate]; omega
theorem pile_mem {cs : List Int} : ∀ i, ∀ x ∈ (waysAt cs i).2, 0 ≤ x ∧ x < (i : Int)
  | 0 => fun x hx => nomatch hx
  | i + 1 => fun x hx => by
    have e : (waysAt cs (i + 1)).2 = (waysAt cs i).2.dropLast ++ List.replicate (cs.getD i 0).toNat (i : Int) := rfl
    rw [e] at hx
    rcases List.mem_append.mp hx with hx | hx
    · have := pile_mem i x (List.dropLast_subset _ hx); omega
    · rw [List.eq_of_mem_replicate hx]; omega
noncomputable abbrev waysD (ways : List (List Int)) : List Dat := ways.map fun l => Dat.list (l.map Dat.int)
noncomputable def WaysInv (ca : Addr) (news : Led) (cs0 : List Int) (i : Nat) (m' : Str → Option Value) (nx : Led) : Prop :=
  ∃ (wa pa : Addr) (wv pv : List Value) (k j : Nat) (R : Led) (ways : List (List Int)) (pile : List Int), nx = (pa, listOf pv.toArray j) :: (wa, listOf wv.toArray k) :: (R ++ news) ∧ (∀ p ∈ R ++ news, p.1 ≠ wa) ∧ @Ne Nat pa wa ∧ (∀ q ∈ news, ∀ p ∈ (wa, listOf wv.toArray k) :: R, q.1 < p.1) ∧ DatAll R wv (waysD ways) ∧ IntsAre pv pile ∧ ways = (waysAt cs0 i).1 ∧ pile = (waysAt cs0 i).2 ∧
    m' (Str.ofString "ways") = some (.ref wa) ∧ m' (Str.ofString "pile") = some (.ref pa) ∧ m' (Str.ofString "counts") = some (.ref ca)
section
variable {prog : Program} {w : World} {A : Around} {E : Value → Shared → Prop} {s : Shared} {h₀ : Heap} {L wa : Addr} {R news : Led}
theorem way_item {value slice : PySem.Expr} {wv : List Value} {ways : List (List Int)} {x : Int} {k : Nat} {u : Tok} {Q : Value → Shared → Prop} (N : News h₀ L s.heap news) (hm : (wa, listOf wv.toArray k) ∈ news) (D : DatAll R wv (waysD ways))
    (h0 : 0 ≤ x) (h1 : x < (ways.length : Int)) (hf : ways.length < 2 ^ 62) (h : ∀ l us n, (l, listOf (List.toArray us) n) ∈ R → IntsAre us (ways.getD x.toNat []) → Q (.ref l) s)
    (hs : subscripted slice false (.ref wa) (.int x u) = operate [.ref wa, .int x u] (getItem (.ref wa) (.int x u)) := by with_unfolding_all rfl) :
    wpAny (model prog w) A (subscriptTail value slice (.ref wa) (.int x u)) Q E s := by
  refine kd_item N hm D h0 (by unfold waysD; rw [List.length_map]; exact h1) (by omega) (fun v d hd _ hD => ?_) hs
  unfold waysD at hd
  rw [List.getElem?_map] at hd
  obtain ⟨l, hl, rfl⟩ := Option.map_eq_some_iff.mp hd
  cases hD with
  | list hmm hA => exact h _ _ _ hmm (by rw [List.getD_eq_getElem?_getD, hl]; exact ints_of_dat hA)
end
theorem ways_next {h₀ h : Heap} {L I wa D pa' ca : Addr} {oI : Obj} {l R news : Led} {wv pv' us : List Value} {k k' j' kd i : Nat} {ways : List (List Int)} {way pile' cs0 : List Int} {m' : Str → Option Value} (N : News h₀ L h l) (mw : (wa, listOf (wv.toArray.push (Value.ref D)) k') ∈ l) (e2 : m' (Str.ofString "pile") = some (.ref pa')) (mp : (pa', listOf pv'.toArray j') ∈ l) (mI : (I, oI) ∈ l) (mD : (D, listOf us.toArray kd) ∈ l) (mR : ∀ p ∈ R ++ news, p ∈ l)
    (hoff : ∀ p ∈ R ++ news, p.1 ≠ wa) (hDw : @Ne Nat D wa) (hpw : @Ne Nat pa' wa) (hord : ∀ q ∈ news, ∀ p ∈ (wa, listOf wv.toArray k) :: R, q.1 < p.1) (hD : AllLt D (R ++ news)) (hwI : @Ne Nat wa I) (hpI : @Ne Nat pa' I) (hDI : @Ne Nat D I) (hRI : ∀ p ∈ R ++ news, p.1 ≠ I)
    (hways : DatAll R wv (waysD ways)) (hus : IntsAre us way) (hp : IntsAre pv' pile') (ew : ways ++ [way] = (waysAt cs0 (i + 1)).1) (ep : pile' = (waysAt cs0 (i + 1)).2)
    (e1 : m' (Str.ofString "ways") = some (.ref wa)) (e3 : m' (Str.ofString "counts") = some (.ref ca)) :
    ∃ nx, News h₀ L h ((I, oI) :: nx) ∧ (∀ p ∈ nx, p.1 ≠ I) ∧ WaysInv ca news cs0 (i + 1) m' nx := by
  rw [List.push_toArray] at mw
  refine ⟨(pa', listOf pv'.toArray j') :: (wa, listOf (wv ++ [Value.ref D]).toArray k') :: (((D, listOf us.toArray kd) :: R) ++ news), fun p hp => ?_, fun p hp => ?_, wa, pa', _, _, _, _, _, _, _, rfl, fun p hp => ?_, hpw, fun q hq p hp => ?_, ?_, hp, ew, ep, e1, e2, e3⟩
  · rcases List.mem_cons.mp hp with rfl | hp
    · exact N _ mI
    rcases List.mem_cons.mp hp with rfl | hp
    · exact N _ mp
    rcases List.mem_cons.mp hp with rfl | hp
    · exact N _ mw
    rcases List.mem_cons.mp hp with rfl | hp
    · exact N _ mD
    exact N _ (mR _ hp)
  · rcases List.mem_cons.mp hp with rfl | hp
    · exact hpI
    rcases List.mem_cons.mp hp with rfl | hp
    · exact hwI
    rcases List.mem_cons.mp hp with rfl | hp
    · exact hDI
    exact hRI _ hp
  · rcases List.mem_cons.mp hp with rfl | hp
    · exact hDw
    exact hoff _ hp
  · rcases List.mem_cons.mp hp with rfl | hp
    · exact hord q hq (wa, listOf wv.toArray k) (List.mem_cons_self ..)
    rcases List.mem_cons.mp hp with rfl | hp
    · exact ktn_ltOf hD q (List.mem_append.mpr (.inr hq))
    exact hord q hq _ (.tail _ hp)
  · unfold waysD
    rw [List.map_append]
    exact DatAll.append (hways.mono fun p hp => .tail _ hp) (.one (.list (.head _) (dat_of_ints hus)))
theorem ways_end {h₀ h : Heap} {L I wa D pa' ca : Addr} {oI : Obj} {l R news : Led} {wv pv' us : List Value} {k k' j' kd i tk : Nat} {ways : List (List Int)} {way pile' cs0 : List Int} {m' : Str → Option Value} {s₁ : Shared} {Q : Flow → Shared → Prop} (F : Fr h₀ L h m') (N : News h₀ L h l) (mw : (wa, listOf (wv.toArray.push (Value.ref D)) k') ∈ l) (e2 : m' (Str.ofString "pile") = some (.ref pa')) (mp : (pa', listOf pv'.toArray j') ∈ l) (mI : (I, oI) ∈ l) (mD : (D, listOf us.toArray kd) ∈ l) (mR : ∀ p ∈ R ++ news, p ∈ l)
    (hoff : ∀ p ∈ R ++ news, p.1 ≠ wa) (hDw : @Ne Nat D wa) (hpw : @Ne Nat pa' wa) (hord : ∀ q ∈ news, ∀ p ∈ (wa, listOf wv.toArray k) :: R, q.1 < p.1) (hD : AllLt D (R ++ news)) (hwI : @Ne Nat wa I) (hpI : @Ne Nat pa' I) (hDI : @Ne Nat D I) (hRI : ∀ p ∈ R ++ news, p.1 ≠ I)
    (hways : DatAll R wv (waysD ways)) (hus : IntsAre us way) (hp : IntsAre pv' pile') (ew : ways ++ [way] = (waysAt cs0 (i + 1)).1) (ep : pile' = (waysAt cs0 (i + 1)).2)
    (e1 : m' (Str.ofString "ways") = some (.ref wa)) (e3 : m' (Str.ofString "counts") = some (.ref ca)) :
    TurnEnd h₀ L (I, oI) (WaysInv ca news cs0 (i + 1)) s₁ Q .next { s₁ with heap := h, toks := tk } := by
  obtain ⟨nx, a, b, c⟩ := ways_next N mw e2 mp mI mD mR hoff hDw hpw hord hD hwI hpI hDI hRI hways hus hp ew ep e1 e3
  exact ⟨_, _, _, nx, rfl, F, a, b, c⟩
theorem way_short {cs : List Int} : ∀ i, ∀ l ∈ (waysAt cs i).1, l.length ≤ i
  | 0 => fun l hl => nomatch hl
  | i + 1 => fun l hl => by
    have e : (waysAt cs (i + 1)).1 = (waysAt cs i).1 ++ [(if (waysAt cs i).2 = [] then [] else (waysAt cs i).1.getD ((waysAt cs i).2.getLastD 0).toNat []) ++ [(i : Int)]] := rfl
    rw [e] at hl
    rcases List.mem_append.mp hl with hl | hl
    · exact Nat.le_succ_of_le (way_short i l hl)
    · rw [List.mem_singleton.mp hl, List.length_append]
      have : (if (waysAt cs i).2 = [] then [] else (waysAt cs i).1.getD ((waysAt cs i).2.getLastD 0).toNat []).length ≤ i := by
        split
        · exact Nat.zero_le _
        · rw [List.getD_eq_getElem?_getD]
          cases h : (waysAt cs i).1[((waysAt cs i).2.getLastD 0).toNat]? with
          | none => exact Nat.zero_le _
          | some l => exact way_short i l (List.mem_of_getElem? h)
      simp only [List.length_singleton]; omega
theorem way_short' {cs : List Int} (i : Nat) (j : Nat) : ((waysAt cs i).1.getD j []).length ≤ i := by
  rw [List.getD_eq_getElem?_getD]
  cases h : (waysAt cs i).1[j]? with
  | none => exact Nat.zero_le _
  | some l => exact way_short i l (List.mem_of_getElem? h)
theorem flat_rep (c : Nat) (x : Int) : (List.replicate c [x]).flatten = List.replicate c x := PySem.W.krep_flat x c
theorem ways_nil {cs : List Int} {i : Nat} (h : [] = (waysAt cs i).2) : (waysAt cs i).1 ++ [[(i : Int)]] = (waysAt cs (i + 1)).1 ∧ [] ++ (List.replicate (cs.getD (i : Int).toNat 0).toNat [(i : Int)]).flatten = (waysAt cs (i + 1)).2 := by
  show _ = (waysStep _ (waysAt cs i).2 _ _).1 ∧ _ = (waysStep _ (waysAt cs i).2 _ _).2
  rw [← h, flat_rep]
  exact ⟨rfl, rfl⟩
theorem ways_snoc {cs ps : List Int} {x : Int} {i : Nat} (h : ps ++ [x] = (waysAt cs i).2) : (waysAt cs i).1 ++ [(waysAt cs i).1.getD x.toNat [] ++ [(i : Int)]] = (waysAt cs (i + 1)).1 ∧ List.take ((ps ++ [x]).length - 1) (ps ++ [x]) ++ (List.replicate (cs.getD (i : Int).toNat 0).toNat [(i : Int)]).flatten = (waysAt cs (i + 1)).2 := by
  show _ = (waysStep _ (waysAt cs i).2 _ _).1 ∧ _ = (waysStep _ (waysAt cs i).2 _ _).2
  rw [← h, flat_rep]
  unfold waysStep
  simp
set_option maxHeartbeats 1000000 in
theorem ways_spec {w p loose mean mg mb} (ca : Addr) (cvs : List Value) (ck : Nat) (cs0 : List Int) (news : Led) (hm : (ca, listOf cvs.toArray ck) ∈ news) (hi : IntsAre cvs cs0) (hl : cs0.length = 6) (hc : ∀ c ∈ cs0, 0 ≤ c ∧ c ≤ 5) : CallD w p loose mean mg mb 208 2 96 news [.ref ca] (fun tl r => DatIn tl r (.list (waysD (waysAt cs0 6).1))) := by
  k_with_none
  (k_with "mine mem" => first | (refine List.mem_cons_of_mem _ ?_; ktr_member) | (refine List.mem_cons_of_mem _ (List.mem_cons_of_mem _ ?_); ktr_member) | (refine List.mem_cons_of_mem _ (List.mem_cons_of_mem _ (List.mem_cons_of_mem _ ?_)); ktr_member) | (refine List.mem_cons_of_mem _ (List.mem_cons_of_mem _ (List.mem_cons_of_mem _ (List.mem_cons_of_mem _ ?_))); ktr_member))
  (k_with "mine all" => assumption)
  (k_with "compareOp NotEq ref ref" => (k_here; k_dflt first | (refine' ne_nil_nil ?k1 ?k2 ?k3 ?k4 ?_; (case k1 => k_asm); (case k2 => k_mem); (case k3 => k_mem); (case k4 => ktr_units); k_whole) | (refine' ne_nil_snoc (by assumption) ?k1 ?k2 ?k3 ?k4 ?_; (case k1 => k_asm); (case k2 => k_mem); (case k3 => k_mem); (case k4 => ktr_units); k_whole)))
  (k_with "subscriptTail Name Subscript ref int" => (k_here; refine stop ?_))
  (k_with "pyIter ref" => (k_here; refine stop ?_))
  intro dp un gd cn cs L₀ ccd cl outer A₀ base h₀ L m s Q E B F X N T hk hd hu hret
  refine wpAny_call ?_
  k_dflt ktr_enter
  conv in (occs := *) fnBody _ => all_goals whnf
  conv in (occs := *) fnScope _ => all_goals whnf
  conv in (occs := *) fnArgs _ => all_goals whnf
  k_steps
  refine loopUp (WaysInv ca news cs0) rfl (by first | k_asm | exact fr_lift (by k_asm) (by assumption)) (by first | k_asm | exact news_lift (by k_asm) (by assumption)) (by assumption) (by decide) (by decide) (by decide) (by decide) ?_ ?_ ?_
  · refine ⟨_, _, [], [], 0, 0, [], [], [], rfl, ?_, ?_, ?_, .nil, .nil, rfl, rfl, rfl, rfl, rfl⟩
    · intro p hp; exact Nat.ne_of_lt ((by assumption : ∀ p ∈ news, p.1 < _) p hp)
    · omega
    · intro q hq p hp
      rw [List.mem_singleton.mp hp]
      exact (by assumption : ∀ p ∈ news, p.1 < _) q hq
  · rintro i ti m₁ news₁ h₂ tk₂ q hi6 ⟨wa, pa, wv, pv, k, j, R, ways, pile, rfl, hoff, hpw, hord, hways, hpile, ew, ep, e1, e2, e3⟩ hq F₁ N₁
    have F₂ := fr_tell [(Str.ofString "ways", .ref wa), (Str.ofString "pile", .ref pa), (Str.ofString "counts", .ref ca)] (by intro p hp _; simp only [List.mem_cons, List.not_mem_nil, or_false] at hp; rcases hp with rfl | rfl | rfl <;> assumption) F₁
    clear F₁ e1 e2 e3
    dsimp only [kstB] at F₂
    obtain ⟨I, oI⟩ := q
    have hpI : @Ne Nat pa I := hq _ (.head _)
    have hwI : @Ne Nat wa I := hq _ (.tail _ (.head _))
    have hRI : ∀ p ∈ R ++ news, p.1 ≠ I := fun p hp => hq p (.tail _ (.tail _ hp))
    clear hq
    have hm' : (ca, listOf cvs.toArray ck) ∈ R ++ news := List.mem_append.mpr (.inr hm)
    have hplen := hpile.length
    have hclen := hi.length
    have hwn : wv.length = i := by rw [hways.length, List.length_map, ew, ways_length]
    have hi6' : i < 6 := by omega
    have hwl : ways.length = i := by rw [ew, ways_length]
    have hcb := cs_bd hc ((i : Int).toNat)
    have hpb : pile.length ≤ 30 := by have := pile_length hc i; rw [← ep] at this; omega
    rw [Int.zero_add] at F₂
    rcases List.eq_nil_or_concat pile with rfl | ⟨ps, x, rfl⟩
    · cases hpile.nil_inv
      k_steps
      rename_i D9 ws9 h9 F9 N9 hI9 l9 h10 F10 N10
      refine' ways_end F10 N10 ?k1 ?k2 ?k3 ?k4 ?k5 ?k6 hoff ?k7 ?k8 hord ?k9 hwI ?k10 ?k11 hRI hways ?k12 hI9 ?k13 ?k14 ?k15 ?k16
      case k1 => k_mem
      case k2 => exact rfl
      case k3 => k_mem
      case k4 => k_mem
      case k5 => k_mem
      case k6 => (intro p hp; repeat (first | exact hp | refine List.mem_cons_of_mem _ ?_))
      case k7 => omega
      case k8 => omega
      case k9 => exact (by assumption : @LT.lt Nat _ _ _ ∧ @LT.lt Nat _ _ _ ∧ @LT.lt Nat _ _ _ ∧ @LT.lt Nat _ _ _ ∧ @LT.lt Nat _ _ _ ∧ @LT.lt Nat _ _ _ ∧ AllLt _ (R ++ news)).2.2.2.2.2.2
      case k10 => omega
      case k11 => omega
      case k12 => exact .cons _ _ .nil
      case k13 => rw [ew]; exact (ways_nil ep).1
      case k14 => exact (ways_nil ep).2
      case k15 => exact rfl
      case k16 => exact rfl
    · rw [List.concat_eq_append] at hpile ep hpb
      obtain ⟨us, tx, rfl, hus⟩ := ints_snoc hpile
      have hx := pile_mem (cs := cs0) i x (by rw [← ep]; simp)
      k_steps
      unfold Stop
      refine' way_item ?k1 ?k2 (by assumption) ?k3 ?k4 ?k5 ?_ (by with_unfolding_all rfl)
      case k1 => k_asm
      case k2 => k_mem
      case k3 => omega
      case k4 => omega
      case k5 => omega
      intro l9 us9 n9 hl9 hi9
      have hl9' : (l9, listOf us9.toArray n9) ∈ R ++ news := List.mem_append.mpr (.inl hl9)
      have hwy : ((waysAt cs0 i).1.getD x.toNat []).length ≤ i := way_short' _ _
      rw [ew] at hi9
      k_steps
      rename_i D9 ws9 h9 F9 N9 hI9 l9 h10 F10 N10
      refine' ways_end F10 N10 ?k1 ?k2 ?k3 ?k4 ?k5 ?k6 hoff ?k7 ?k8 hord ?k9 hwI ?k10 ?k11 hRI hways ?k12 hI9 ?k13 ?k14 ?k15 ?k16
      case k1 => k_mem
      case k2 => exact rfl
      case k3 => k_mem
      case k4 => k_mem
      case k5 => k_mem
      case k6 => (intro p hp; repeat (first | exact hp | refine List.mem_cons_of_mem _ ?_))
      case k7 => omega
      case k8 => omega
      case k9 => exact (by assumption : @LT.lt Nat _ _ _ ∧ @LT.lt Nat _ _ _ ∧ @LT.lt Nat _ _ _ ∧ @LT.lt Nat _ _ _ ∧ @LT.lt Nat _ _ _ ∧ AllLt _ (R ++ news)).2.2.2.2.2
      case k10 => omega
      case k11 => omega
      case k12 => assumption
      case k13 => rw [ew]; exact (ways_snoc ep).1
      case k14 => exact (ways_snoc ep).2
      case k15 => exact rfl
      case k16 => exact rfl
  · rintro m₁ news₁ h₂ tk₂ ⟨wa, pa, wv, pv, k, j, R, ways, pile, rfl, hoff, hpw, hord, hways, hpile, ew, ep, e1, e2, e3⟩ F₁ N₁
    have F₂ := fr_told [(Str.ofString "ways", .ref wa), (Str.ofString "pile", .ref pa), (Str.ofString "counts", .ref ca)] (by intro p hp; simp only [List.mem_cons, List.not_mem_nil, or_false] at hp; rcases hp with rfl | rfl | rfl <;> assumption) F₁
    clear F₁ e1 e2 e3
    dsimp only [kstB] at F₂
    k_steps
    refine hret _ ((wa, listOf wv.toArray k) :: R) _ _ (by k_asm) (newsSub (by assumption) ?_) hord ?_
    · intro p hp
      rcases List.mem_cons.mp hp with rfl | hp
      · exact .tail _ (.head _)
      · exact .tail _ (.tail _ hp)
    · exact .list (.head _) ((ew ▸ hways).mono fun p hp => .tail _ hp)
end Mine
end
theorem Mine.clean19 : True := by
  k_with_none
  trivial
section
open PySem PySem.W PySem.Spec PySem.Calls PyProof.Rows
namespace Mine
section
variable {prog : Program} {w : World} {A : Around} {E : Value → Shared → Prop} {s : Shared} {Q : Value → Shared → Prop}
theorem mul1 {c : Nat} {x : Str} {n : Int} {t u : Tok} (hx : x = ⟨#[c]⟩) (h1 : -1000 ≤ n ∧ n ≤ 1000) (h : ∀ t' k, Q (.str ⟨(List.replicate n.toNat c).toArray⟩ t') { s with toks := k }) : wpAny (model prog w) A (binaryOp .Mult (.str x t) (.int n u)) Q E s := by
  subst hx
  refine SB.mul ⟨?_, ?_, ?_⟩ fun t' k => ?_
  · simp only [Bool.or_eq_false_iff, decide_eq_false_iff_not]; omega
  · intro h2 _ h3
    have h4 : (1 : Int) ≤ (2 ^ 63 - 1) / n := by
      rw [Int.le_ediv_iff_mul_le (by omega)]; omega
    have h5 : ((⟨#[c]⟩ : Str).length : Int) = 1 := rfl
    rw [h5] at h3; omega
  · intro _ _
    have h5 : (⟨#[c]⟩ : Str).length = 1 := rfl
    rw [h5]
    show decide (_ > sizeLine) = false
    rw [decide_eq_false_iff_not, sizeLine_eq]; omega
  · have e : Txt.mul ⟨#[c]⟩ n = ⟨(List.replicate n.toNat c).toArray⟩ := by
      have := mul_one_list c n
      cases hq : Txt.mul ⟨#[c]⟩ n with
      | mk a => rw [hq] at this; rw [← this]
    rw [e]; exact h t' k
theorem add1 {x y : Str} {lx ly : List Nat} {t u : Tok} (hx : x = ⟨lx.toArray⟩) (hy : y = ⟨ly.toArray⟩) (hs : lx.length + ly.length ≤ 10000) (h : ∀ t' k, Q (.str ⟨(lx ++ ly).toArray⟩ t') { s with toks := k }) : wpAny (model prog w) A (binaryOp .Add (.str x t) (.str y u)) Q E s := by
  subst hx hy
  refine SB.add (fun t' k => ?_) (by rw [sizeLine_eq]; show lx.toArray.size + ly.toArray.size ≤ _; rw [List.size_toArray, List.size_toArray]; omega)
  have e : (⟨lx.toArray⟩ ++ ⟨ly.toArray⟩ : Str) = ⟨(lx ++ ly).toArray⟩ := by
    show (⟨lx.toArray ++ ly.toArray⟩ : Str) = _
    rw [List.append_toArray]
  rw [e]; exact h t' k
theorem len1 {lx : List Nat} {t : Tok} (hs : lx.length ≤ 10000) (h : ∀ t' k, Q (.int (lx.length : Int) t') { s with toks := k }) : wpAny (model prog w) A (call (.builtin "len") [.str ⟨lx.toArray⟩ t]) Q E s := by
  have e : (⟨lx.toArray⟩ : Str).length = lx.length := by show lx.toArray.size = _; rw [List.size_toArray]
  refine PyProof.Rows.len_str (by rw [e]; omega) ?_
  rw [e]; exact h _ _
end
noncomputable abbrev tupO (vs : List Value) (n : Nat) : Obj := { cls := .type "tuple", data := .seq vs.toArray n }
section
variable {prog : Program} {w : World} {A : Around} {E : Value → Shared → Prop} {s : Shared} {h₀ : Heap} {L sa : Addr} {R news : Led}
theorem sp_item {value slice : PySem.Expr} {sv : List Value} {qs : List (Nat × Str)} {x : Int} {k : Nat} {u : Tok} {Q : Value → Shared → Prop} (N : News h₀ L s.heap news) (hm : (sa, listOf sv.toArray k) ∈ news) (D : DatAll R sv (qs.map fun q => Dat.tuple [.str ⟨#[q.1]⟩, .str q.2]))
    (h0 : 0 ≤ x) (h1 : x < (qs.length : Int)) (hf : qs.length < 2 ^ 62) (h : ∀ l vs n, (l, tupO vs n) ∈ R → DatAll R vs [.str ⟨#[(qs.getD x.toNat (0, Str.ofString "")).1]⟩, .str (qs.getD x.toNat (0, Str.ofString "")).2] → Q (.ref l) s)
    (hs : subscripted slice false (.ref sa) (.int x u) = operate [.ref sa, .int x u] (getItem (.ref sa) (.int x u)) := by with_unfolding_all rfl) :
    wpAny (model prog w) A (subscriptTail value slice (.ref sa) (.int x u)) Q E s := by
  refine kd_item N hm D h0 (by rw [List.length_map]; exact h1) (by omega) (fun v d hd _ hD => ?_) hs
  rw [List.getElem?_map] at hd
  obtain ⟨q, hq, rfl⟩ := Option.map_eq_some_iff.mp hd
  cases hD with
  | tuple hmm hA => exact h _ _ _ hmm (by rw [List.getD_eq_getElem?_getD, hq]; exact hA)
theorem tup_fst {value slice : PySem.Expr} {l : Addr} {vs : List Value} {n : Nat} {a b : Str} {u : Tok} {Q : Value → Shared → Prop} (N : News h₀ L s.heap news) (hm : (l, tupO vs n) ∈ news) (D : DatAll R vs [.str a, .str b]) (h : ∀ t, Q (.str a t) s)
    (hs : subscripted slice false (.ref l) (.int 0 u) = operate [.ref l, .int 0 u] (getItem (.ref l) (.int 0 u)) := by with_unfolding_all rfl) :
    wpAny (model prog w) A (subscriptTail value slice (.ref l) (.int 0 u)) Q E s := by
  cases D with
  | cons h1 h2 =>
    cases h1
    cases h2 with
    | cons h3 h4 =>
      cases h4
      refine item_tupleT (News.isTup N hm) (by decide) (by decide) (j := 0) ?_ rfl (h _) hs
      rfl
end
section
variable {prog : Program} {w : World} {A : Around} {E : Value → Shared → Prop} {s : Shared} {h₀ : Heap} {L l : Addr} {news : Led}
theorem item_back {value slice : PySem.Expr} {vs : List Value} {ns : List Int} {n : Nat} {u : Tok} {Q : Value → Shared → Prop} (N : News h₀ L s.heap news) (hm : (l, listOf vs.toArray n) ∈ news) (hi : IntsAre vs ns) (h2 : 2 ≤ ns.length) (hf : ns.length < 2 ^ 62) (h : ∀ t, Q (.int (ns.getD (ns.length - 2) 0) t) s)
    (hs : subscripted slice false (.ref l) (.int (-2) u) = operate [.ref l, .int (-2) u] (getItem (.ref l) (.int (-2) u)) := by with_unfolding_all rfl) :
    wpAny (model prog w) A (subscriptTail value slice (.ref l) (.int (-2) u)) Q E s := by
  have hl := hi.length
  have hlt : ns.length - 2 < vs.length := by omega
  obtain ⟨t, ht⟩ := hi.int_at (ns.length - 2) vs[ns.length - 2] (List.getElem?_eq_getElem hlt)
  refine kde_neg (j := ns.length - 2) (News.isList N hm) (by decide) (by decide) ?_ (by rw [List.getElem?_eq_getElem hlt, ht]) (h t) hs
  simp only [seqIndex?, hl]
  have a1 : (-2 : Int) < 0 := by decide
  have a2 : (0 : Int) ≤ -2 + (ns.length : Int) := by omega
  have a3 : -2 + (ns.length : Int) < (ns.length : Int) := by omega
  simp only [a1, if_true]
  simp
  omega
theorem strs_item {value slice : PySem.Expr} {vs : List Value} {ss : List Str} {n : Nat} {x : Int} {u : Tok} {Q : Value → Shared → Prop} (N : News h₀ L s.heap news) (hm : (l, listOf vs.toArray n) ∈ news) (hi : StrsAre vs ss) (h0 : 0 ≤ x) (h1 : x < (ss.length : Int)) (hf : ss.length < 2 ^ 62) (h : ∀ t, Q (.str (ss.getD x.toNat (Str.ofString "")) t) s)
    (hs : subscripted slice false (.ref l) (.int x u) = operate [.ref l, .int x u] (getItem (.ref l) (.int x u)) := by with_unfolding_all rfl) :
    wpAny (model prog w) A (subscriptTail value slice (.ref l) (.int x u)) Q E s := by
  have hl := hi.length
  have D : DatAll [] vs (ss.map Dat.str) := by
    clear h1 hf h hl hm
    induction hi with
    | nil => exact .nil
    | cons y t _ ih => exact .cons (.str _ _) (ih)
  refine kd_item N hm D h0 (by rw [List.length_map]; exact h1) (by omega) (fun v d hd _ hD => ?_) hs
  rw [List.getElem?_map] at hd
  obtain ⟨y, hy, rfl⟩ := Option.map_eq_some_iff.mp hd
  cases hD
  have e : ss.getD x.toNat (Str.ofString "") = y := by rw [List.getD_eq_getElem?_getD, hy]; rfl
  exact e ▸ h _
theorem ne_same {x y : Str} {t u : Tok} {Q : Value → Shared → Prop} (e : x = y) (h : Q (.bool false) s) : wpAny (model prog w) A (compareOp .NotEq (.str x t) (.str y u)) Q E s := by
  subst e
  refine PySem.P.ne_str ?_
  rw [bne_self_eq_false]; exact h
end
section
variable {prog : Program} {w : World} {A : Around} {E : Value → Shared → Prop} {s : Shared} {h₀ : Heap} {L l : Addr} {news : Led}
theorem ints_in {vs : List Value} {ns : List Int} {n : Nat} {x : Int} {t : Tok} {Q : Value → Shared → Prop} (N : News h₀ L s.heap news) (hm : (l, listOf vs.toArray n) ∈ news) (hi : IntsAre vs ns) (hu : A.units + 64 < cLine) (h : Q (.bool (decide (x ∈ ns))) s) :
    wpAny (model prog w) A (compareOp .In (.int x t) (.ref l)) Q E s := by
  classical
  refine kqd_isIn (n₂ := []) N hm rfl rfl (dat_of_ints (L := []) hi) (fun _ h => nomatch h) (.int x t) (fun _ h => nomatch h) ?_ rfl hu ?_
  · intro d hd; obtain ⟨y, _, rfl⟩ := List.mem_map.mp hd; rfl
  · have e : (Dat.int x ∈ ns.map Dat.int) ↔ x ∈ ns := ⟨fun q => by obtain ⟨y, hy, e⟩ := List.mem_map.mp q; cases e; exact hy, fun q => List.mem_map.mpr ⟨x, q, rfl⟩⟩
    by_cases hq : x ∈ ns
    · rw [decide_eq_true hq] at h
      rw [decide_eq_true (e.mpr hq)]; exact h
    · rw [decide_eq_false hq] at h
      rw [decide_eq_false fun q => hq (e.mp q)]; exact h
end
section
variable {prog : Program} {w : World} {A : Around} {E : Value → Shared → Prop} {s : Shared} {h₀ : Heap} {L l : Addr} {news : Led}
theorem any_item {value slice : PySem.Expr} {vs : List Value} {n : Nat} {x : Int} {u : Tok} {v : Value} {Q : Value → Shared → Prop} (N : News h₀ L s.heap news) (hm : (l, listOf vs.toArray n) ∈ news) (h0 : 0 ≤ x) (hv : vs[x.toNat]? = some v) (hf : x < 2 ^ 62) (h : Q v s)
    (hs : subscripted slice false (.ref l) (.int x u) = operate [.ref l, .int x u] (getItem (.ref l) (.int x u)) := by with_unfolding_all rfl) :
    wpAny (model prog w) A (subscriptTail value slice (.ref l) (.int x u)) Q E s := by
  have hl : s.heap.IsList l vs.toArray := News.isList N hm
  exact tail_any hl.typeIs slot_list_getitem.lookup (wpAny_getItem_list hl h0 (by omega) (by simpa using hv) h) hs
theorem push_item {value slice : PySem.Expr} {vs : List Value} {n i : Nat} {u : Tok} {v : Value} {Q : Value → Shared → Prop} (N : News h₀ L s.heap news) (hm : (l, listOf (vs.toArray.push v) n) ∈ news) (hi : vs.length = i) (hf : i < 1000) (h : Q v s)
    (hs : subscripted slice false (.ref l) (.int (i : Int) u) = operate [.ref l, .int (i : Int) u] (getItem (.ref l) (.int (i : Int) u)) := by with_unfolding_all rfl) :
    wpAny (model prog w) A (subscriptTail value slice (.ref l) (.int (i : Int) u)) Q E s := by
  rw [List.push_toArray] at hm
  exact any_item N hm (Int.natCast_nonneg _) (by rw [Int.toNat_natCast, ← hi]; simp) (by omega) h hs
end
theorem lit9m : Str.ofString "\t" = ⟨#[9]⟩ := rfl
theorem lit32m : Str.ofString " " = ⟨#[32]⟩ := rfl
theorem lit32 : Str.ofString " " = ⟨[32].toArray⟩ := rfl
theorem lit40 : Str.ofString "(" = ⟨[40].toArray⟩ := rfl
theorem lit41 : Str.ofString ")" = ⟨[41].toArray⟩ := rfl
theorem way_len (ways : List (List Int)) (j : Nat) (hws : ∀ x ∈ ways, x.length ≤ 6) : (ways.getD j []).length ≤ 6 := by
  rw [List.getD_eq_getElem?_getD]
  cases h : ways[j]? with
  | none => exact Nat.zero_le _
  | some l => exact hws l (List.mem_of_getElem? h)
theorem way_short62 (ways : List (List Int)) (j : Nat) (hws : ∀ x ∈ ways, x.length ≤ 6) : (ways.getD j []).length < 2 ^ 62 := Nat.lt_of_le_of_lt (way_len ways j hws) (by decide)
example : Str.ofString "(" = ⟨[40].toArray⟩ := rfl
example : Str.ofString ")" = ⟨#[41]⟩ := rfl
end Mine
end
section
open PySem PySem.W PySem.Spec PySem.Calls PyProof.Rows
set_option maxHeartbeats 4000000
namespace Mine
theorem regC : (fun (_ : OpenLaw) (_ : Params → Frag) => True) PySem.Challenge.rw_sn0085_01 Mine.K := by
  k_fill
  exact trivial
/-- the signs of the law and what they make -/
noncomputable def signs : List (Nat × Str) := [(173, Str.ofString ""), (8203, Str.ofString ""), (65279, Str.ofString ""), (65039, Str.ofString ""), (65, Str.ofString "a"), (119809, Str.ofString "b"), (8450, Str.ofString "c"), (100, Str.ofString "d"),
  (223, Str.ofString "ss"), (64257, Str.ofString "fi"), (8470, Str.ofString "no"), (13191, Str.ofString "gb"), (64259, Str.ofString "ffi"), (13169, Str.ofString "hpa"), (8481, Str.ofString "tel"), (13273, Str.ofString "ppm"),
  (13254, Str.ofString "c∕kg")]
theorem idx_lt {n : Int} (h : 0 ≤ n) : [0, 1, 2, 0, 1, 3, 0, 2, 4].getD (n.fmod 9).toNat 0 = (0 : Int) ∨ [0, 1, 2, 0, 1, 3, 0, 2, 4].getD (n.fmod 9).toNat 0 = (1 : Int) ∨ [0, 1, 2, 0, 1, 3, 0, 2, 4].getD (n.fmod 9).toNat 0 = (2 : Int) ∨ [0, 1, 2, 0, 1, 3, 0, 2, 4].getD (n.fmod 9).toNat 0 = (3 : Int) ∨ [0, 1, 2, 0, 1, 3, 0, 2, 4].getD (n.fmod 9).toNat 0 = (4 : Int) := by
  have h1 : n.fmod 9 = n % 9 := Int.fmod_eq_emod_of_nonneg _ (by decide)
  rw [h1]
  have h2 : n % 9 = 0 ∨ n % 9 = 1 ∨ n % 9 = 2 ∨ n % 9 = 3 ∨ n % 9 = 4 ∨ n % 9 = 5 ∨ n % 9 = 6 ∨ n % 9 = 7 ∨ n % 9 = 8 := by omega
  rcases h2 with e | e | e | e | e | e | e | e | e <;> rw [e] <;> decide

noncomputable def tables : List Dat := [.list [.tuple [.int 173, .str (Str.ofString "")], .tuple [.int 8203, .str (Str.ofString "")], .tuple [.int 65279, .str (Str.ofString "")], .tuple [.int 65039, .str (Str.ofString "")]],
  .list [.tuple [.int 65, .str (Str.ofString "a")], .tuple [.int 119809, .str (Str.ofString "b")], .tuple [.int 8450, .str (Str.ofString "c")], .tuple [.int 100, .str (Str.ofString "d")]],
  .list [.tuple [.int 223, .str (Str.ofString "ss")], .tuple [.int 64257, .str (Str.ofString "fi")], .tuple [.int 8470, .str (Str.ofString "no")], .tuple [.int 13191, .str (Str.ofString "gb")]],
  .list [.tuple [.int 64259, .str (Str.ofString "ffi")], .tuple [.int 13169, .str (Str.ofString "hpa")], .tuple [.int 8481, .str (Str.ofString "tel")], .tuple [.int 13273, .str (Str.ofString "ppm")]],
  .list [.tuple [.int 13254, .str (Str.ofString "c∕kg")]]]
theorem spell_spec {w p loose mean mg mb} (n : Int) (t : Tok) (h0 : 0 ≤ n) (news : Led) : CallD w p loose mean mg mb 194 1 24 news [.int n t] (fun tl r => ∃ q ∈ signs, DatIn tl r (.tuple [.str ⟨#[q.1]⟩, .str q.2])) := by
  k_with_none
  (k_with "mine shows" => repeat' (first | exact shows_int | exact shows_str | exact shows_nil | refine shows_cons ?_ ?_ | refine shows_tuple ?_ | refine shows_list ?_))
  (k_with "eval List" => (k_here; k_dflt (refine' (shows_list (ds := tables) ?k1) _ _ _ ?k2 ?k3 ?_; (case k1 => walk_at "mine shows"); (case k2 => k_asm); (case k3 => k_asm))))
  (k_with "mine sub" => (intro p9 hp9; simp only [List.mem_cons, List.mem_append, hp9, true_or, or_true]))
  (k_with "call builtin:len" => (k_here; (with_reducible show wpAny _ _ (call (Value.builtin "len") [Value.ref _]) _ _ _); k_dflt (refine' d_len ?k1 ?k2 ?k3 ?k4 ?_; (case k2 => assumption); (case k1 => k_asm); (case k3 => walk_at "mine sub"); (case k4 => omega); k_whole)))
  (k_with "subscriptTail" => (k_here; (with_reducible show wpAny _ _ (subscriptTail _ _ (Value.ref _) (Value.int 0 _)) _ _ _); k_dflt (refine' d_tup (k := 0) ?k1 ?k2 ?k3 ?k4 ?k5 ?_; (case k2 => assumption); (case k1 => k_asm); (case k3 => walk_at "mine sub"); (case k4 => exact rfl); (case k5 => decide); k_whole); (walk_at "mine tail4")))
  (k_with "subscriptTail" => (k_here; (with_reducible show wpAny _ _ (subscriptTail _ _ (Value.ref _) (Value.int 1 _)) _ _ _); k_dflt (refine' d_tup (k := 1) ?k1 ?k2 ?k3 ?k4 ?k5 ?_; (case k2 => assumption); (case k1 => k_asm); (case k3 => walk_at "mine sub"); (case k4 => exact rfl); (case k5 => decide); k_whole); (walk_at "mine tail4")))
  intro dp un gd cn cs a ccd cl outer A₀ base h₀ L m s Q E B F X N T hk hd hu hret
  refine wpAny_call ?_
  k_dflt ktr_enter
  conv in (occs := *) fnBody _ => all_goals whnf
  conv in (occs := *) fnScope _ => all_goals whnf
  conv in (occs := *) fnArgs _ => all_goals whnf
  walk1
  walk1
  walk1
  refine' (shows_list (ds := tables) ?k1) _ _ _ ?k2 ?k3 ?_
  case k2 => k_asm
  case k3 => k_asm
  case k1 =>
    walk_at "mine shows"
    intro news9 s9 Q9 F9 N9 h9
    k_steps
    exact h9 _ [] _ _ (by k_asm) (by k_asm) ord_nil (DatIn.str _ _)
  intro v tl h' tk' F' N' o' D'
  have hfd : 0 ≤ n.fdiv 9 := Int.fdiv_nonneg h0 (by decide)
  cases v with
  | ref rows => 
    k_steps
    have hb : 0 ≤ ([0, 1, 2, 0, 1, 3, 0, 2, 4].getD (n.fmod 9).toNat 0 : Int) ∧ ([0, 1, 2, 0, 1, 3, 0, 2, 4].getD (n.fmod 9).toNat 0 : Int) < 5 := by
      rcases idx_lt h0 with e | e | e | e | e <;> rw [e] <;> decide
    refine d_item (by k_asm) D' (fun p hp => .tail _ (List.mem_append.mpr (.inl hp))) hb.1 hb.2 (by decide) ?_
    intro v2 d2 hk2 hm2 hD2
    have hrow : ∃ ps : List Dat, d2 = .list ps ∧ 0 < (ps.length : Int) ∧ ps.length ≤ 4 ∧ ∀ d ∈ ps, ∃ q ∈ signs, d = .tuple [.int (q.1 : Nat), .str q.2] := by
      clear hk2 hb hD2
      simp only [tables, List.mem_cons, List.not_mem_nil, or_false] at hm2
      rcases hm2 with rfl | rfl | rfl | rfl | rfl <;> refine ⟨_, rfl, by decide, by decide, ?_⟩ <;> intro d hd <;> simp only [List.mem_cons, List.not_mem_nil, or_false] at hd
      · rcases hd with rfl | rfl | rfl | rfl
        · exact ⟨signs[0], by decide, rfl⟩
        · exact ⟨signs[1], by decide, rfl⟩
        · exact ⟨signs[2], by decide, rfl⟩
        · exact ⟨signs[3], by decide, rfl⟩
      · rcases hd with rfl | rfl | rfl | rfl
        · exact ⟨signs[4], by decide, rfl⟩
        · exact ⟨signs[5], by decide, rfl⟩
        · exact ⟨signs[6], by decide, rfl⟩
        · exact ⟨signs[7], by decide, rfl⟩
      · rcases hd with rfl | rfl | rfl | rfl
        · exact ⟨signs[8], by decide, rfl⟩
        · exact ⟨signs[9], by decide, rfl⟩
        · exact ⟨signs[10], by decide, rfl⟩
        · exact ⟨signs[11], by decide, rfl⟩
      · rcases hd with rfl | rfl | rfl | rfl
        · exact ⟨signs[12], by decide, rfl⟩
        · exact ⟨signs[13], by decide, rfl⟩
        · exact ⟨signs[14], by decide, rfl⟩
        · exact ⟨signs[15], by decide, rfl⟩
      · rcases hd with rfl
        exact ⟨signs[16], by decide, rfl⟩
    clear hk2 hb hm2
    obtain ⟨ps, rfl, hps, hps4, hall⟩ := hrow
    cases v2 with
    | ref row =>
      k_steps
      have hmod : 0 ≤ (n.fdiv 9).fmod ps.length ∧ (n.fdiv 9).fmod ps.length < ps.length := ⟨Int.fmod_nonneg_of_pos _ hps, Int.fmod_lt_of_pos _ hps⟩
      refine d_item (by k_asm) hD2 (by walk_at "mine sub") hmod.1 hmod.2 (by omega) ?_
      intro v3 d3 hk3 hm3 hD3
      obtain ⟨q, hq, rfl⟩ := hall d3 hm3
      have hqb : 0 ≤ ((q.1 : Nat) : Int) ∧ ((q.1 : Nat) : Int) < 1114112 := by
        have : ∀ q ∈ signs, q.1 < 1114112 := by decide
        have := this q hq
        omega
      clear hk3 hm3 hmod hall
      cases v3 with
      | ref pr =>
        k_steps
        rename _ ∧ AllLt _ _ => hlt
        rename News h₀ L _ _ => kN
        exact hret _ _ _ _ (by k_asm) (end_sub kN (by walk_at "mine sub")) (ord_one (l := tl ++ news) hlt.2 (by walk_at "mine sub")) ⟨q, hq, DatIn.tuple (vs := [_, _]) (.head _) (.cons (.str _ _) (.cons (.str _ _) .nil))⟩
      | _ => cases hD3
    | _ => cases hD2
  | _ => cases D'
end Mine
end
theorem Mine.clean21 : True := by
  k_with_none
  trivial
section
open PySem PySem.W PySem.Spec PySem.Calls PyProof.Rows
set_option maxHeartbeats 4000000
namespace Mine
theorem regG : (fun (_ : OpenLaw) (_ : Params → Frag) => True) PySem.Challenge.rw_sn0085_01 Mine.K := by
  k_fill
  exact trivial
theorem news_tl2 {h₀ h : Heap} {L : Addr} {a b : Addr × Obj} {R : Led} (N : News h₀ L h (a :: b :: R)) : News h₀ L h ([] ++ R) := fun p hp => N p (.tail _ (.tail _ hp))
/-- the flag n with the bits under i taken away -/
noncomputable def high (n i : Nat) : Nat := n / 2 ^ i * 2 ^ i
theorem high_zero (n : Nat) : high n 0 = n := by simp [high]
theorem high_div (n i : Nat) : n / 2 ^ i = 2 * (n / 2 ^ (i + 1)) + n / 2 ^ i % 2 := by
  rw [Nat.pow_succ, ← Nat.div_div_eq_div_mul]; omega
theorem high_bit (n i : Nat) (h : n.testBit i = true) : high n i = high n (i + 1) + 2 ^ i := by
  have e : n / 2 ^ i % 2 = 1 := by simpa [Nat.testBit_eq_decide_div_mod_eq] using h
  have := high_div n i
  unfold high
  rw [e] at this
  rw [this, Nat.pow_succ, Nat.add_mul, Nat.one_mul]
  congr 1
  rw [Nat.mul_comm 2, Nat.mul_assoc, Nat.mul_comm 2]
theorem high_nobit (n i : Nat) (h : n.testBit i = false) : high n i = high n (i + 1) := by
  have e : n / 2 ^ i % 2 = 0 := by simpa [Nat.testBit_eq_decide_div_mod_eq] using h
  have := high_div n i
  unfold high
  rw [e] at this
  rw [this, Nat.pow_succ, Nat.add_zero, Nat.mul_comm 2, Nat.mul_assoc, Nat.mul_comm 2]
theorem and_high (n i : Nat) : Builtin.bitAnd (high n i : Nat) (1 * 2 ^ (i : Int).toNat) = if n.testBit i then (2 ^ i : Nat) else 0 := by
  have e1 : (1 * 2 ^ (i : Int).toNat : Int) = ((2 ^ i : Nat) : Int) := by simp
  rw [e1]
  unfold Builtin.bitAnd
  rw [decide_eq_true (Int.natCast_nonneg _), decide_eq_true (Int.natCast_nonneg _)]
  show (((high n i : Nat) &&& (2 ^ i : Nat) : Nat) : Int) = _
  have : (high n i).testBit i = n.testBit i := by
    unfold high
    rw [Nat.mul_comm, Nat.testBit_two_pow_mul, Nat.testBit_div_two_pow]; simp
  have e2 : high n i &&& 2 ^ i = if n.testBit i then 2 ^ i else 0 := by
    refine Nat.eq_of_testBit_eq fun j => ?_
    rw [Nat.testBit_and, Nat.testBit_two_pow]
    by_cases hj : i = j
    · subst hj
      rw [this]
      cases n.testBit i <;> simp
    · cases n.testBit i <;> simp [hj, Nat.testBit_two_pow]
  rw [e2]
theorem xor_high (n i : Nat) (h : n.testBit i = true) : Builtin.bitXor (high n i : Nat) (1 * 2 ^ (i : Int).toNat) = (high n (i + 1) : Nat) := by
  rw [bitXor_and, and_high, if_pos h]
  have e1 : (1 * 2 ^ (i : Int).toNat : Int) = ((2 ^ i : Nat) : Int) := by simp
  rw [e1, high_bit n i h]; omega
theorem hexlen : ∀ i : Nat, i < 32 → (baseText "0x" 16 (1 * 2 ^ (i : Int).toNat)).length ≤ 100 := by decide +kernel
noncomputable def nameOk (v : Option Value) (c : Int) (x : Str) : Bool := match v with
  | some (.str y _) => y == x
  | some _ => false
  | none => baseText "0x" 16 c == x
theorem names_ok (P : Params) : ((List.range 32).all fun i => nameOk (flV P (1 * 2 ^ (i : Int).toNat)) (1 * 2 ^ (i : Int).toNat) (word i)) = true := by kernel_rfl
theorem name_at (P : Params) (i : Nat) (hi : i < 32) (t₀ : Tok) : ∃ t, (flV P (1 * 2 ^ (i : Int).toNat)).getD (.str (baseText "0x" 16 (1 * 2 ^ (i : Int).toNat)) t₀) = .str (word i) t := by
  have h := List.all_eq_true.mp (names_ok P) i (List.mem_range.mpr hi)
  revert h
  unfold nameOk
  split
  · intro h; rename_i y t e; exact ⟨t, by rw [e, ← eq_of_beq h]; rfl⟩
  · intro h; cases h
  · intro h; rename_i e; exact ⟨t₀, by rw [e, ← eq_of_beq h]; rfl⟩
section
variable {prog : Program} {w : World} {A : Around} {E : Value → Shared → Prop} {s : Shared} {h₀ : Heap} {L : Addr} {m : Str → Option Value}
theorem fl_get {i : Nat} {t t' : Tok} {Q : Value → Shared → Prop} (F : Fr h₀ L s.heap m) (X : (Mine.K w.params).In h₀) (hi : i < 32) (h : ∀ t, Q (.str (word i) t) { s with toks := s.toks + 1 }) :
    wpAny (model prog w) A (call (.builtin "dict.get") [.ref 88, .int (1 * 2 ^ (i : Int).toNat) t, .str (baseText "0x" 16 (1 * 2 ^ (i : Int).toNat)) t']) Q E s := by
  refine get2_K F X (fl_is _) rfl rfl ?_
  obtain ⟨t₁, e⟩ := name_at w.params i hi t'
  show Q ((flV w.params _).getD _) _
  rw [e]
  exact h t₁
end
local macro_rules | `(tactic| walk_at "exec For Name Call cons cons") => `(tactic| (k_here; (rename Fr _ _ _ _ => lF'); (with_unfolding_all refine' For_G lF' ?k1 ?k2 ?_; (case k1 => exact rfl); (case k2 => exact rfl); k_whole)))
/-- the words of the flags under i -/
noncomputable def flagWords (n i : Nat) : List Str := ((List.range i).filter fun j => n.testBit j).map fun j => word (j : Nat)
theorem flagWords_bit {n i : Nat} (h : n.testBit i = true) : flagWords n (i + 1) = flagWords n i ++ [word (i : Nat)] := by
  unfold flagWords; rw [List.range_succ, List.filter_append, List.map_append]; simp [h]
theorem flagWords_nobit {n i : Nat} (h : n.testBit i = false) : flagWords n (i + 1) = flagWords n i := by
  unfold flagWords; rw [List.range_succ, List.filter_append, List.map_append]; simp [h]
theorem flagWords_end {n i : Nat} (hi : i ≤ 32) (h : high n i = 0) : flagWords n 32 = flagWords n i := by
  have hd : n / 2 ^ i = 0 := by
    unfold high at h
    rcases Nat.mul_eq_zero.mp h with h | h
    · exact h
    · exact absurd h (Nat.ne_of_gt (Nat.two_pow_pos i))
  have hn : n < 2 ^ i := (Nat.div_eq_zero_iff_lt (Nat.two_pow_pos i)).mp hd
  have key : ∀ d, flagWords n (i + d) = flagWords n i := by
    intro d
    induction d with
    | zero => rfl
    | succ d ih =>
      have e : n.testBit (i + d) = false := Nat.testBit_lt_two_pow (Nat.lt_of_lt_of_le hn (Nat.pow_le_pow_right (by decide) (by omega)))
      rw [← Nat.add_assoc, flagWords_nobit e, ih]
  have := key (32 - i)
  rwa [Nat.add_sub_cancel' hi] at this
theorem wordlen : ∀ i : Nat, i < 32 → (word (i : Nat)).length ≤ 100 := by decide +kernel
theorem flagWords_fit (n : Nat) {i : Nat} (hi : i ≤ 32) : ((flagWords n i).map (·.length)).sum + (flagWords n i).length * (Str.ofString ", ").length ≤ 16777216 := by
  have hl : (flagWords n i).length ≤ i := by
    unfold flagWords; rw [List.length_map]
    exact Nat.le_trans (List.length_filter_le _ _) (by rw [List.length_range]; exact Nat.le_refl _)
  have hs : ((flagWords n i).map (·.length)).sum ≤ (flagWords n i).length * 100 := StrLaws.sumLen_le _ (fun y hy => by
    obtain ⟨j, hj, rfl⟩ := List.mem_map.mp hy
    exact wordlen j (Nat.lt_of_lt_of_le (List.mem_range.mp (List.mem_filter.mp hj).1) hi))
  have hc : (Str.ofString ", ").length = 2 := by decide
  rw [hc]
  have : (flagWords n i).length * 100 ≤ 32 * 100 := Nat.mul_le_mul_right _ (Nat.le_trans hl hi)
  have : (flagWords n i).length * 2 ≤ 32 * 2 := Nat.mul_le_mul_right _ (Nat.le_trans hl hi)
  omega
theorem pretty_spec {w p loose mean mg mb} (n : Nat) (t : Tok) (h0 : 0 < n) (hn : n < 2 ^ 32) (news : Led) : CallD w p loose mean mg mb 95 2 24 news [.int n t] (fun tl r => tl = [] ∧ ∃ t, r = .str (Txt.join (Str.ofString ", ") (flagWords n 32)) t) := by
  k_with_none
  (k_with "mine mem" => first | (refine List.mem_cons_of_mem _ ?_; ktr_member) | (refine List.mem_cons_of_mem _ (List.mem_cons_of_mem _ ?_); ktr_member))
  (k_with "mine all" => assumption)
  (k_with "call builtin:hex" => (k_here; (with_reducible refine' P.hex_of_int ?_ ?hz); (case hz => exact Nat.le_trans (hexlen _ (by omega)) (by rw [sizeLine_eq]; decide))))
  (k_with "call builtin:dict.get" => (k_here; (with_reducible show wpAny _ _ (call (Value.builtin "dict.get") [Value.ref 88, Value.int _ _, _]) _ _ _); k_dflt (refine' fl_get ?k1 ?k2 ?k3 ?_; (case k1 => k_asm); (case k2 => k_asm); (case k3 => omega); k_whole); intro _))
  (k_with "pyIter ref" => (k_here; refine stop ?_))
  intro dp un gd cn cs L₀ ccd cl outer A₀ base h₀ L m s Q E B F X N T hk hd hu hret
  refine wpAny_call ?_
  k_dflt ktr_enter
  conv in (occs := *) fnBody _ => all_goals whnf
  conv in (occs := *) fnScope _ => all_goals whnf
  conv in (occs := *) fnArgs _ => all_goals whnf
  k_steps
  refine upG (fun i m' nx gs => gs = s.gens ∧ ∃ (lc : Addr) (vs : List Value) (ws : List Str) (k : Nat) (tf : Tok), nx = (lc, listOf vs.toArray k) :: news ∧ (∀ p ∈ news, p.1 ≠ lc) ∧ StrsAre vs ws ∧ ws.length ≤ i ∧ m' (Str.ofString "names") = some (.ref lc) ∧ m' (Str.ofString "flags") = some (.int (high n i) tf) ∧ ws = flagWords n i ∧ high n i ≠ 0) rfl (by first | k_asm | exact fr_lift (by k_asm) (by assumption)) (by first | k_asm | exact news_lift (by k_asm) (by assumption)) (by assumption) (by decide) (by decide) (by decide) (by decide) ?_ ?_ ?_
  · exact ⟨rfl, _, [], [], 0, _, rfl, fun p hp => Nat.ne_of_lt ((by assumption : ∀ p ∈ news, p.1 < _) p hp), .nil, Nat.zero_le _, rfl, by rw [high_zero]; rfl, rfl, by rw [high_zero]; omega⟩
  · rintro i ti m₁ news₁ h₂ tk₂ gs₂ q hi ⟨rfl, lc, vs, ws, k, tf, rfl, lc1, hws, hwl, en, ef, hww, hne⟩ hq F₁ N₁
    have F₂ := fr_tell [(Str.ofString "names", .ref lc), (Str.ofString "flags", .int (high n i) tf)] (by intro p hp _; simp only [List.mem_cons, List.not_mem_nil, or_false] at hp; rcases hp with rfl | rfl <;> assumption) F₁
    clear F₁ en ef
    dsimp only [kstB] at F₂
    obtain ⟨I, oI⟩ := q
    have hqI : @Ne Nat lc I := hq _ (.head _)
    have hqR : ∀ p ∈ news, p.1 ≠ I := fun p hp => hq p (.tail _ hp)
    clear hq
    have hvl := hws.length
    have hb : high n i < 2 ^ 32 := Nat.lt_of_le_of_lt (Nat.div_mul_le_self _ _) hn
    have hi' : (i : Int) < 32 := by omega
    have hi2 : i < 32 := by omega
    rw [Int.zero_add] at F₂
    have hand := and_high n i
    have hxor := xor_high n i
    cases hbit : n.testBit i <;> rw [hbit] at hand <;> simp only [Bool.false_eq_true, if_false, if_true] at hand
    all_goals generalize hf : high n i = f at *
    · have hpos := Nat.two_pow_pos i
      k_steps
      · exfalso; omega
      refine ⟨_, _, _, _, _, rfl, by k_asm, by k_asm, fun p hp => (List.mem_cons.mp hp).elim (fun e => e ▸ hqI) (hqR p), rfl, lc, vs, ws, k, tf, rfl, lc1, hws, Nat.le_succ_of_le hwl, rfl, ?_, by rw [hww, flagWords_nobit hbit], by rw [← high_nobit n i hbit, hf]; exact hne⟩
      rw [← high_nobit n i hbit, hf]; rfl
    · have hpos := Nat.two_pow_pos i
      k_steps
      · rename News _ _ _ _ => N3
        rw [List.push_toArray] at N3
        refine ⟨_, _, _, _, _, rfl, by k_asm, N3, fun p hp => (List.mem_cons.mp hp).elim (fun e => e ▸ hqI) (hqR p), rfl, lc, _, ws ++ [word (i : Nat)], k + 1, _, rfl, lc1, KStt.strs_snoc hws, by rw [List.length_append, List.length_singleton]; omega, rfl, congrArg (fun z => some (Value.int z _)) (hxor hbit), by rw [hww, flagWords_bit hbit], by have := hxor hbit; omega⟩
      · dsimp only [TurnG]
        k_steps
        rename News _ _ _ _ => N3
        rw [List.push_toArray] at N3
        refine join_list (ys := flagWords n (i + 1)) (News.isList N3 (.tail _ (.head _))) (by rw [flagWords_bit hbit, ← hww]; exact KStt.strs_snoc hws) (flagWords_fit n (by omega)) ?_
        intro t' k'
        k_steps
        exact hret _ [] _ _ (by k_asm) (news_tl2 (by k_asm)) ord_nil ⟨rfl, _, by rw [flagWords_end (n := n) (i := i + 1) (by omega) (by have := hxor hbit; omega)]⟩
      · exfalso; omega
  · rintro m₁ news₁ h₂ tk₂ gs₂ ⟨rfl, lc, vs, ws, k, tf, rfl, lc1, hws, hwl, en, ef, hww, hne⟩ F₁ N₁
    have e : high n 32 = 0 := by unfold high; rw [Nat.div_eq_of_lt hn, Nat.zero_mul]
    exact absurd e hne
end Mine
end
theorem Mine.clean22 : True := by
  k_with_none
  trivial
local macro_rules | `(tactic| walk_at "mine none") => `(tactic| fail "none")
local macro_rules | `(tactic| walk_at "mine none") => `(tactic| fail "none")
section
open PySem PySem.W PySem.Spec PySem.Calls PyProof.Rows
set_option maxHeartbeats 2000000
namespace Mine
theorem regM13 : (fun (_ : OpenLaw) (_ : Params → Frag) => True) PySem.Challenge.rw_sn0085_01 Mine.K := by
  k_fill
  exact trivial

noncomputable def frontOf (S : Int) : List Nat := if (S.fdiv 27).fmod 2 = 1 then [32, 9] else []
theorem seg13 {w : World} {p : Program} {loose : List Str} {mean : ExcName → Option Value} {mg mb : Str → Option Value} {L fa da : Addr} {h₀ : Heap} {s : Shared} {m : Str → Option Value} {news : Led} {Q : Flow → Shared → Prop} {E : Value → Shared → Prop} {rest : List Stmt} {ds : List Int} {dv : List Value} {kd : Nat} {ol : Obj} {v₀ : Option Value}
    (Bw : Below callerA h₀ [] h₀) (X : (Mine.K w.params).In h₀) (T : Top p loose mean mg mb h₀) (F : Fr h₀ L s.heap m) (N : News h₀ L s.heap ((L + 1 + 1 + 1 + 1 + 1 + 1, ol) :: news)) (hol : ol.data = .cell v₀) (hoff : ∀ p ∈ news, p.1 ≠ L + 1 + 1 + 1 + 1 + 1 + 1)
    (hm : m (Str.ofString "drawn") = some (.ref da)) (hd : (da, listOf dv.toArray kd) ∈ news) (hI : IntsAre dv ds)
    (k : ∀ (D : Addr) (ol' : Obj) (t : Tok) (h' : Heap) (tk : Nat) (m' : Str → Option Value), Fr h₀ L h' m' → News h₀ L h' ((D, listOf (List.toArray []) 0) :: (L + 1 + 1 + 1 + 1 + 1 + 1, ol') :: news) → ol'.data = .cell (some (.ref D)) → (∀ q ∈ (L + 1 + 1 + 1 + 1 + 1 + 1, ol') :: news, q.1 < D) → m' = (fun y => if y = Str.ofString "front" then some (.str ⟨(frontOf ds.sum).toArray⟩ t) else m y) → wpAny (model prog w) (lawA L fa) (execs rest (lawEnv L fa)) Q E { s with heap := h', toks := tk }) :
    wpAny (model prog w) (lawA L fa) (execs (lawB13 :: lawB14 :: rest) (lawEnv L fa)) Q E s := by
  k_with_none
  (k_with "mine mem" => (repeat (first | with_reducible assumption | refine List.mem_cons_of_mem _ ?_)); done)
  (k_with "call builtin:sum" => (k_here; k_dflt (refine' sumK ?k0 ?k1 ?k2 (News.isList (by assumption) ?k3) (by assumption) ?_; (case k0 => exact rfl); (case k1 => k_asm); (case k2 => k_asm); (case k3 => k_mem); k_whole); intro _ _ _ _ _))
  (k_with "mine all" => assumption)
  have F' := fr_told [(Str.ofString "drawn", .ref da)] (by intro p hp; rw [List.mem_singleton.mp hp]; exact hm) F
  dsimp only [kstB] at F'
  clear F
  unfold lawA lawEnv
  conv in (occs := *) lawB13 => all_goals whnf
  conv in (occs := *) lawB14 => all_goals whnf
  conv in (occs := *) lawSc => all_goals whnf
  k_steps
  · rename_i l9 h9 o9 F9 N9 d9
    refine' k _ o9 _ _ _ _ (by k_asm) (by k_asm) d9 ?g1 ?g2
    case g1 =>
      intro q hq
      rcases List.mem_cons.mp hq with rfl | hq
      · exact l9.1
      · exact ktn_ltOf l9.2 q hq
    case g2 =>
      funext y
      have hfr : frontOf ds.sum = [32, 9] := if_pos (by assumption)
      rw [hfr]
      show (if y = Str.ofString "front" then some (Value.str (Str.ofString " \t") _) else if y = Str.ofString "drawn" then some (Value.ref da) else m y) = _
      rw [kst_one hm y]
      rfl
  · rename_i l9 h9 o9 F9 N9 d9
    refine' k _ o9 _ _ _ _ (by k_asm) (by k_asm) d9 ?g1 ?g2
    case g1 =>
      intro q hq
      rcases List.mem_cons.mp hq with rfl | hq
      · exact l9.1
      · exact ktn_ltOf l9.2 q hq
    case g2 =>
      funext y
      have hfr : frontOf ds.sum = [] := if_neg (by assumption)
      rw [hfr]
      show (if y = Str.ofString "front" then some (Value.str (Str.ofString "") _) else if y = Str.ofString "drawn" then some (Value.ref da) else m y) = _
      rw [kst_one hm y]
      rfl
end Mine
end
theorem Mine.clean23 : True := by
  k_with_none
  trivial
section
open PySem PySem.W PySem.Spec PySem.Calls PyProof.Rows
set_option maxHeartbeats 2000000
namespace Mine
theorem regM2 : (fun (_ : OpenLaw) (_ : Params → Frag) => True) PySem.Challenge.rw_sn0085_01 Mine.K := by
  k_fill
  exact trivial
noncomputable def SpellJ (news : Led) (i : Nat) (ys : List Value) (tl : Led) : Prop := ∃ qs : List (Nat × Str), (∀ q ∈ qs, q ∈ signs) ∧ qs.length = i ∧ DatAll tl ys (qs.map pairD) ∧ (∀ q ∈ news, ∀ p ∈ tl, q.1 < p.1)
theorem seg2 {w : World} {p : Program} {loose : List Str} {mean : ExcName → Option Value} {mg mb : Str → Option Value} {L fa da : Addr} {h₀ : Heap} {s : Shared} {m : Str → Option Value} {news : Led} {Q : Flow → Shared → Prop} {E : Value → Shared → Prop} {rest : List Stmt} {ds : List Int} {dv : List Value} {kd : Nat}
    (Bw : Below callerA h₀ [] h₀) (X : (Mine.K w.params).In h₀) (T : Top p loose mean mg mb h₀) (F : Fr h₀ L s.heap m) (hm : m (Str.ofString "drawn") = some (.ref da)) (N : News h₀ L s.heap news) (hd : (da, listOf dv.toArray kd) ∈ news) (hI : IntsAre dv ds) (hl : ds.length = 6) (h0 : ∀ d ∈ ds, 0 ≤ d)
    (k : ∀ (D : Addr) (tl : Led) (qs : List (Nat × Str)) (h' : Heap) (tk : Nat) (m' : Str → Option Value), Fr h₀ L h' m' → News h₀ L h' (tl ++ news) → (∀ q ∈ news, ∀ p ∈ tl, p.1 ≠ q.1) → (∀ q ∈ qs, q ∈ signs) → qs.length = 6 → DatIn tl (.ref D) (.list (qs.map pairD)) → m' = (fun y => if y = Str.ofString "spelled" then some (.ref D) else m y) → wpAny (model prog w) (lawA L fa) (execs rest (lawEnv L fa)) Q E { s with heap := h', toks := tk }) :
    wpAny (model prog w) (lawA L fa) (execs (lawB2 :: rest) (lawEnv L fa)) Q E s := by
  k_with_none
  (k_with "exec Assign cons ListComp" => (k_here; k_dflt (refine LCg.Assign_ListComp_U (F₀ := by k_asm) (by rfl) (by with_unfolding_all rfl) (by with_unfolding_all rfl) (by decide) (by rfl) (by decide) (by rfl) (by rfl) (by rfl) ?_)))
  (k_with "eval ListComp" => (k_here; k_dflt (refine LCg.ListComp_U (F₀ := by k_asm) (by with_unfolding_all rfl) (by decide) (by rfl) (by decide) (by rfl) ?_)))
  (k_with "CompSrc" => (k_here; refine stop ?_))
  (k_with "mine mem" => first | (refine List.mem_cons_of_mem _ ?_; ktr_member) | (refine List.mem_cons_of_mem _ (List.mem_cons_of_mem _ ?_); ktr_member) | (refine List.mem_cons_of_mem _ (List.mem_cons_of_mem _ (List.mem_cons_of_mem _ ?_)); ktr_member))
  (k_with "call ref" => (k_here; (with_reducible show wpAny _ _ (call (Value.ref 194) _) _ _ _); refine stop ?_))
  have F' := fr_told [(Str.ofString "drawn", .ref da)] (by intro p hp; rw [List.mem_singleton.mp hp]; exact hm) F
  dsimp only [kstB] at F'
  clear F
  unfold lawA lawEnv
  conv in (occs := *) lawB2 => all_goals whnf
  conv in (occs := *) lawSc => all_goals whnf
  k_steps
  unfold Stop
  refine comp_led (SpellJ news) rfl (by k_asm) N hd (by rw [sizeLine_eq, hI.length, hl]; decide) ⟨[], by simp, rfl, .nil, fun _ _ _ h => nomatch h⟩ ?_ ?_
  · intro i ys tl v I oI C oC D m₂ h tk E' hv hJ hC hx F₁ N₁ off ne
    obtain ⟨d, td, rfl, hdn⟩ := hI.at i v hv
    have hd0 := h0 d (List.mem_of_getElem? hdn)
    k_steps
    unfold Stop
    refine' callD_use (spell_spec d td hd0 _) ?k1 ?k2 ?k3 ?k4 ?k5 ?k6 ?k7 ?k8 ?_
    case k1 => k_asm
    case k2 => k_asm
    case k3 => k_asm
    case k4 => k_asm
    case k5 => k_asm
    case k6 => first | exact rfl | assumption
    case k7 => first | omega | ktr_room
    case k8 => first | omega | ktr_units
    intro r9 tl9 h9 tk9 F9 N9 o9 p9
    obtain ⟨q9, hq9, hD9⟩ := p9
    obtain ⟨qs, hqs, hql, hqd, hqo⟩ := hJ
    refine comp_end F9 N9 o9 off ⟨qs ++ [q9], ?_, ?_, ?_, ?_⟩
    · intro q hq
      rcases List.mem_append.mp hq with hq | hq
      · exact hqs q hq
      · rw [List.mem_singleton.mp hq]; exact hq9
    · rw [List.length_append, hql]; rfl
    · rw [List.map_append]
      exact DatAll.append (hqd.mono fun p hp => List.mem_append.mpr (.inr hp)) (.one (hD9.mono fun p hp => List.mem_append.mpr (.inl hp)))
    · intro q hq p hp
      rcases List.mem_append.mp hp with hp | hp
      · exact o9 q (.tail _ (.tail _ (.tail _ (List.mem_append.mpr (.inr hq))))) p hp
      · exact hqo q hq p hp
  · rintro g ys tl ⟨qs, hqs, hql, hqd, hqo⟩
    intro D h' tk F₁ N₁ o₁
    refine k D ((D, _) :: tl) qs h' tk _ F₁ N₁ ?_ hqs (hql.trans (by rw [hI.length, hl])) (.list (.head _) (hqd.mono fun p hp => .tail _ hp)) ?_
    · intro q hq p hp
      rcases List.mem_cons.mp hp with rfl | hp
      · exact Ne.symm (off1_mem o₁ q (List.mem_append.mpr (.inr hq)))
      · exact Nat.ne_of_gt (hqo q hq p hp)
    · funext y
      show (if _ then _ else (if y = Str.ofString "drawn" then some (Value.ref da) else m y)) = _
      rw [kst_one hm y]
end Mine
end
theorem Mine.clean24 : True := by
  k_with_none
  trivial
section
open PySem PySem.W PySem.Spec PySem.Calls PyProof.Rows
set_option maxHeartbeats 4000000
namespace Mine
theorem regI : (fun (_ : OpenLaw) (_ : Params → Frag) => True) PySem.Challenge.rw_sn0085_01 Mine.K := by
  k_fill
  exact trivial
section
variable {prog : Program} {w : World} {A : Around} {E : Value → Shared → Prop} {s : Shared} {h₀ : Heap} {L a b : Addr} {m : Str → Option Value} {news : Led}
theorem ints_eq_yes {xs : List Value} {ns : List Int} {ys : List Value} {ms : List Int} {ka kb : Nat} {Q : Value → Shared → Prop} (e : ns = ms) (N : News h₀ L s.heap news) (ma : (a, listOf xs.toArray ka) ∈ news) (hi : IntsAre xs ns) (mb : (b, listOf ys.toArray kb) ∈ news) (hj : IntsAre ys ms) (hu : A.units + 64 < cLine)
    (h : Q (.bool true) s) : wpAny (model prog w) A (compareOp .Eq (.ref a) (.ref b)) Q E s :=
  ints_eq N ma hi mb hj hu (by rw [decide_eq_true e]; exact h)
theorem ints_eq_no {xs : List Value} {ns : List Int} {ys : List Value} {ms : List Int} {ka kb : Nat} {Q : Value → Shared → Prop} (e : ¬ ns = ms) (N : News h₀ L s.heap news) (ma : (a, listOf xs.toArray ka) ∈ news) (hi : IntsAre xs ns) (mb : (b, listOf ys.toArray kb) ∈ news) (hj : IntsAre ys ms) (hu : A.units + 64 < cLine)
    (h : Q (.bool false) s) : wpAny (model prog w) A (compareOp .Eq (.ref a) (.ref b)) Q E s :=
  ints_eq N ma hi mb hj hu (by rw [decide_eq_false e]; exact h)
end
/-- the walk from the right; f: how deep it may go yet -/
noncomputable def rightW (ways : List (List Int)) : Nat → List Int → List Int
  | 0, _ => []
  | f + 1, above => [(5 : Nat), 4, 3, 2, 1, 0].flatMap fun j => if (ways.getD j []).dropLast = above then (j : Int) :: rightW ways f (ways.getD j []) else []
noncomputable def rightTo (ways : List (List Int)) (f : Nat) (above : List Int) (i : Nat) : List Int :=
  ([(5 : Nat), 4, 3, 2, 1, 0].take i).flatMap fun j => if (ways.getD j []).dropLast = above then (j : Int) :: rightW ways f (ways.getD j []) else []
theorem rightTo_step (ways : List (List Int)) (f : Nat) (above : List Int) {i : Nat} (hi : i < 6) : rightTo ways f above (i + 1) = rightTo ways f above i ++ (if (ways.getD (5 - i) []).dropLast = above then ((5 - i : Nat) : Int) :: rightW ways f (ways.getD (5 - i) []) else []) := by
  have e : ([(5 : Nat), 4, 3, 2, 1, 0].take (i + 1)) = [(5 : Nat), 4, 3, 2, 1, 0].take i ++ [5 - i] := by
    match i, hi with
    | 0, _ => rfl
    | 1, _ => rfl
    | 2, _ => rfl
    | 3, _ => rfl
    | 4, _ => rfl
    | 5, _ => rfl
  unfold rightTo
  rw [e, List.flatMap_append]
  simp
theorem rightW_len (ways : List (List Int)) : ∀ f above, (rightW ways f above).length + 1 ≤ 7 ^ f
  | 0, _ => Nat.le_refl _
  | f + 1, above => by
    have key : ∀ (l : List Nat), (l.flatMap fun j => if (ways.getD j []).dropLast = above then (j : Int) :: rightW ways f (ways.getD j []) else []).length ≤ l.length * 7 ^ f := by
      intro l
      induction l with
      | nil => exact Nat.zero_le _
      | cons j l ih =>
        rw [List.flatMap_cons, List.length_append, List.length_cons, Nat.succ_mul]
        have := rightW_len ways f (ways.getD j [])
        have h1 : (if (ways.getD j []).dropLast = above then (j : Int) :: rightW ways f (ways.getD j []) else []).length ≤ 7 ^ f := by
          split
          · rw [List.length_cons]; exact this
          · exact Nat.zero_le _
        omega
    have := key [5, 4, 3, 2, 1, 0]
    have h2 : 0 < 7 ^ f := Nat.pow_pos (by decide)
    show (List.flatMap _ _).length + 1 ≤ _
    rw [Nat.pow_succ]
    simp only [List.length_cons, List.length_nil] at this
    omega
theorem rightTo_len (ways : List (List Int)) (f : Nat) (above : List Int) : ∀ i, i ≤ 6 → (rightTo ways f above i).length ≤ i * 7 ^ f
  | 0, _ => Nat.zero_le _
  | i + 1, hi => by
    rw [rightTo_step ways f above (by omega), List.length_append, Nat.succ_mul]
    have := rightTo_len ways f above i (by omega)
    have h1 := rightW_len ways f (ways.getD (5 - i) [])
    split
    · rw [List.length_cons]; omega
    · rw [List.length_nil]; omega
theorem end_sub2 {h₀ h : Heap} {L : Addr} {q a : Addr × Obj} {l news : Led} (N : News h₀ L h l) (hq : q ∈ l) (ha : a ∈ l) (sub : ∀ p ∈ news, p ∈ l) : News h₀ L h (q :: a :: news) := fun p hp => by
  rcases List.mem_cons.mp hp with rfl | hp
  · exact N _ hq
  rcases List.mem_cons.mp hp with rfl | hp
  · exact N _ ha
  · exact N _ (sub p hp)
noncomputable def RightPost (res : List Int) (tl : Led) (r : Value) : Prop := ∃ D vs k, tl = [(D, listOf (List.toArray vs) k)] ∧ r = .ref D ∧ IntsAre vs res
theorem right_spec {w p loose mean mg mb} (ways : List (List Int)) (hl : ways.length = 6) (hs : ∀ x ∈ ways, x.length ≤ 6) (hne : ∀ x ∈ ways, x ≠ []) (wa : Addr) : ∀ (f : Nat) (_ : f ≤ 6) (above : List Int) (_ : 6 ≤ above.length + f) (news : Led) (hW : DatIn news (.ref wa) (.list (waysD ways))) (aa : Addr) (av : List Value) (ka : Nat) (ha : (aa, listOf av.toArray ka) ∈ news) (hi : IntsAre av above),
    CallD w p loose mean mg mb 215 (2 + 2 * f) (96 + 24 * f) news [.ref wa, .ref aa] (RightPost (rightW ways (f + 1) above)) := by
  k_with_none
  (k_with "mine mem" => first | (refine List.mem_cons_of_mem _ ?_; ktr_member) | (refine List.mem_cons_of_mem _ (List.mem_cons_of_mem _ ?_); ktr_member) | (refine List.mem_cons_of_mem _ (List.mem_cons_of_mem _ (List.mem_cons_of_mem _ ?_)); ktr_member) | (refine List.mem_cons_of_mem _ (List.mem_cons_of_mem _ (List.mem_cons_of_mem _ (List.mem_cons_of_mem _ ?_))); ktr_member) | (refine List.mem_cons_of_mem _ (List.mem_cons_of_mem _ (List.mem_cons_of_mem _ (List.mem_cons_of_mem _ (List.mem_cons_of_mem _ ?_)))); ktr_member))
  (k_with "mine call" => ( (case k1 => k_asm); (case k2 => k_asm); (case k3 => k_asm); (case k4 => k_asm); (case k5 => k_asm); (case k6 => first | exact rfl | assumption); (case k7 => first | omega | ktr_room); (case k8 => first | omega | ktr_units); k_whole))
  (k_with "pyIter ref" => (k_here; refine stop ?_))
  (k_with "call ref" => (k_here; (with_reducible show wpAny _ _ (call (Value.ref 215) _) _ _ _); refine stop ?_))
  (k_with "subscriptTail Name Name ref int" => (k_here; k_dflt (refine' way_item ?k1 ?k2 (by assumption) ?k3 ?k4 ?k5 ?_ (by with_unfolding_all rfl); (case k1 => k_asm); (case k2 => k_mem); (case k3 => omega); (case k4 => omega); (case k5 => omega); k_whole); walk_at "mine tail0"))
  (k_with "compareOp Eq ref ref" => (k_here; k_dflt first | (refine' ints_eq_yes ?k0 ?k1 ?k2 ?k3 ?k4 ?k5 ?k6 ?_; (case k1 => k_asm); (case k2 => k_mem); (case k3 => l_ints); (case k4 => k_mem); (case k5 => l_ints); (case k0 => (rw [← List.dropLast_eq_take]; assumption)); (case k6 => ktr_units); k_whole) | (refine' ints_eq_no ?k0 ?k1 ?k2 ?k3 ?k4 ?k5 ?k6 ?_; (case k1 => k_asm); (case k2 => k_mem); (case k3 => l_ints); (case k4 => k_mem); (case k5 => l_ints); (case k0 => (rw [← List.dropLast_eq_take]; assumption)); (case k6 => ktr_units); k_whole)))
  intro f
  induction f using Nat.strongRecOn with
  | ind f ih =>
  intro hf7 above hf news hW aa av ka ha hi dp un gd cn cs L₀ ccd cl outer A₀ base h₀ L m s Q E B F X N T hk hd hu hret
  have hW' := hW
  cases hW' with
  | @list _ wv wn _ hwm hways =>
  refine wpAny_call ?_
  k_dflt ktr_enter
  conv in (occs := *) fnBody _ => all_goals whnf
  conv in (occs := *) fnScope _ => all_goals whnf
  conv in (occs := *) fnArgs _ => all_goals whnf
  k_steps
  refine loopRange (n := 6) (fun i m' nx => ∃ (wl : Addr) (vs : List Value) (k : Nat), nx = (wl, listOf vs.toArray k) :: news ∧ IntsAre vs (rightTo ways f above i) ∧ (∀ p ∈ news, p.1 < wl) ∧ m' (Str.ofString "walk") = some (.ref wl) ∧ m' (Str.ofString "ways") = some (.ref wa) ∧ m' (Str.ofString "above") = some (.ref aa)) rfl (by assumption) (by decide) (by decide) (by first | k_asm | exact fr_lift (by k_asm) (by assumption)) (by first | k_asm | exact news_lift (by k_asm) (by assumption)) ?_ ?_ ?_
  · exact ⟨_, [], 0, rfl, .nil, by assumption, rfl, rfl, rfl⟩
  · rintro i ti m₁ news₁ h₂ tk₂ q hi6 ⟨wl, vs, k, rfl, hvs, hlt, e1, e2, e3⟩ hq F₁ N₁
    have F₂ := fr_tell [(Str.ofString "walk", .ref wl), (Str.ofString "ways", .ref wa), (Str.ofString "above", .ref aa)] (by intro p hp _; simp only [List.mem_cons, List.not_mem_nil, or_false] at hp; rcases hp with rfl | rfl | rfl <;> assumption) F₁
    clear F₁ e1 e2 e3
    dsimp only [kstB] at F₂
    obtain ⟨I, oI⟩ := q
    have hwI : @Ne Nat wl I := hq _ (.head _)
    have hRI : ∀ p ∈ news, p.1 ≠ I := fun p hp => hq p (.tail _ hp)
    clear hq
    rw [show (5 : Int) + (i : Int) * -1 = ((5 - i : Nat) : Int) by omega] at F₂
    generalize hj : 5 - i = j at F₂
    have hj6 : j < 6 := by omega
    have hvl := hvs.length
    have hwy : (ways.getD j []).length ≤ 6 := by
      rw [List.getD_eq_getElem?_getD]
      cases h : ways[j]? with
      | none => exact Nat.zero_le _
      | some l => exact hs l (List.mem_of_getElem? h)
    have hfp : 7 ^ f ≤ 7 ^ 6 := Nat.pow_le_pow_right (by decide) (by omega)
    have hrl : (rightTo ways f above i).length ≤ 6 * 117649 := Nat.le_trans (rightTo_len ways f above i (by omega)) (Nat.mul_le_mul (by omega) hfp)
    have hwl : (rightW ways f (ways.getD j [])).length ≤ 117649 := by have := rightW_len ways f (ways.getD j []); omega
    by_cases hE : (ways.getD j []).dropLast = above
    · have hEl : (ways.getD j []).length = above.length + 1 := by
        have h1 : ways.getD j [] ≠ [] := by
          rw [List.getD_eq_getElem?_getD, List.getElem?_eq_getElem (by omega)]
          exact hne _ (List.getElem_mem _)
        have h2 := congrArg List.length hE
        have h3 := List.length_pos_iff.mpr h1
        rw [List.length_dropLast] at h2; omega
      obtain ⟨g, rfl⟩ : ∃ g, f = g + 1 := ⟨f - 1, by omega⟩
      k_steps
      unfold Stop
      refine' callD_use (ih g (Nat.lt_succ_self g) ?a0 _ ?a1 _ ?a2 _ _ _ ?a3 ?a4) ?k1 ?k2 ?k3 ?k4 ?k5 ?k6 ?k7 ?k8 ?_
      case k1 => k_asm
      case k2 => k_asm
      case k3 => k_asm
      case k4 => k_asm
      case k5 => k_asm
      case k6 => first | exact rfl | assumption
      case k7 => first | omega | ktr_room
      case k8 => first | omega | ktr_units
      case a3 => (repeat (first | assumption | refine List.mem_cons_of_mem _ ?_))
      case a4 => assumption
      case a0 => omega
      case a1 => omega
      case a2 => exact DatIn.mono (fun p hp => by repeat (first | exact hp | refine List.mem_cons_of_mem _ ?_)) hW
      intro r9 tl9 h9 tk9 F9 N9 o9 p9
      obtain ⟨D9, vs9, k9, rfl, rfl, hi9⟩ := p9
      simp only [List.cons_append, List.nil_append] at N9
      have hD9 : @LT.lt Nat _ I D9 := o9 (I, oI) (by k_mem) (D9, _) (List.mem_singleton_self _)
      k_steps
      rename_i D8 ws8 h8 l8 hI8 h10 F10 N10
      refine ⟨_, _, _, _, rfl, by k_asm, end_sub2 N10 (by k_mem) (by k_mem) (fun p hp => by repeat (first | exact hp | refine List.mem_cons_of_mem _ ?_)), ?_, D8, ws8, _, rfl, ?_, ?_, rfl, rfl, rfl⟩
      · intro p hp
        rcases List.mem_cons.mp hp with rfl | hp
        · show @Ne Nat D8 I; omega
        · exact hRI p hp
      · rw [rightTo_step ways _ above (by omega), hj, if_pos hE]
        rw [List.append_assoc] at l8
        exact l8
      · exact ktn_ltOf hI8.2.2.2.2.2.2
    · k_steps
      refine ⟨_, _, _, _, rfl, by k_asm, end_sub2 (by assumption) (by k_mem) (by k_mem) (fun p hp => by repeat (first | exact hp | refine List.mem_cons_of_mem _ ?_)), ?_, wl, vs, k, rfl, ?_, hlt, rfl, rfl, rfl⟩
      · intro p hp
        rcases List.mem_cons.mp hp with rfl | hp
        · exact hwI
        · exact hRI p hp
      · rw [rightTo_step ways _ above (by omega), hj, if_neg hE, List.append_nil]
        exact hvs
  · rintro m₁ news₁ h₂ tk₂ ⟨wl, vs, k, rfl, hvs, hlt, e1, e2, e3⟩ F₁ N₁
    have F₂ := fr_told [(Str.ofString "walk", .ref wl), (Str.ofString "ways", .ref wa), (Str.ofString "above", .ref aa)] (by intro p hp; simp only [List.mem_cons, List.not_mem_nil, or_false] at hp; rcases hp with rfl | rfl | rfl <;> assumption) F₁
    clear F₁ e1 e2 e3
    dsimp only [kstB] at F₂
    k_steps
    exact hret _ [(wl, listOf vs.toArray k)] _ _ (by k_asm) (by k_asm) (fun q hq p hp => by rw [List.mem_singleton.mp hp]; exact hlt q hq) ⟨wl, vs, k, rfl, rfl, hvs⟩
end Mine
end
theorem Mine.clean25 : True := by
  k_with_none
  trivial
section
open PySem PySem.W PySem.Spec PySem.Calls PyProof.Rows
set_option maxHeartbeats 2000000
namespace Mine
theorem regM1 : (fun (_ : OpenLaw) (_ : Params → Frag) => True) PySem.Challenge.rw_sn0085_01 Mine.K := by
  k_fill
  exact trivial
theorem seg1 {w : World} {p : Program} {loose : List Str} {mean : ExcName → Option Value} {mg mb : Str → Option Value} {L fa la : Addr} {h₀ : Heap} {s : Shared} {m : Str → Option Value} {news : Led} {Q : Flow → Shared → Prop} {E : Value → Shared → Prop} {rest : List Stmt} {ws : List Int} {vs : List Value}
    (Bw : Below callerA h₀ [] h₀) (X : (Mine.K w.params).In h₀) (T : Top p loose mean mg mb h₀) (hC : CodeHd h₀ 219 217) (F : Fr h₀ L s.heap m) (hm : m (Str.ofString "script") = some (.ref la)) (hl : h₀.IsList la vs.toArray) (hI : IntsAre vs ws) (hw : ws.length ≤ 63) (N : News h₀ L s.heap news)
    (k : ∀ (D : Addr) (us : List Value) (n : Nat) (tl : Led) (h' : Heap) (tk : Nat) (m' : Str → Option Value), Fr h₀ L h' m' → News h₀ L h' (tl ++ news) → (∀ q ∈ news, ∀ p ∈ tl, p.1 ≠ q.1) → (D, listOf us.toArray n) ∈ tl → IntsAre us ((ws.take 6).map fun x => x.fmod 1000000) → m' = (fun y => if y = Str.ofString "drawn" then some (.ref D) else m y) → wpAny (model prog w) (lawA L fa) (execs rest (lawEnv L fa)) Q E { s with heap := h', toks := tk }) :
    wpAny (model prog w) (lawA L fa) (execs (lawB0 :: rest) (lawEnv L fa)) Q E s := by
  k_with_none
  (k_with "exec Assign cons ListComp" => (k_here; k_dflt (refine LCg.Assign_ListComp_U (F₀ := by k_asm) (by rfl) (by with_unfolding_all rfl) (by with_unfolding_all rfl) (by decide) (by rfl) (by decide) (by rfl) (by rfl) (by rfl) ?_)))
  (k_with "eval ListComp" => (k_here; k_dflt (refine LCg.ListComp_U (F₀ := by k_asm) (by with_unfolding_all rfl) (by decide) (by rfl) (by decide) (by rfl) ?_)))
  (k_with "CompSrc" => (k_here; refine stop ?_))
  (k_with "mine mem" => first | (refine List.mem_cons_of_mem _ ?_; ktr_member) | (refine List.mem_cons_of_mem _ (List.mem_cons_of_mem _ ?_); ktr_member) | (refine List.mem_cons_of_mem _ (List.mem_cons_of_mem _ (List.mem_cons_of_mem _ ?_)); ktr_member))
  have F' := fr_told [(Str.ofString "script", .ref la)] (by intro p hp; rw [List.mem_singleton.mp hp]; exact hm) F
  dsimp only [kstB] at F'
  clear F
  unfold lawA lawEnv
  conv in (occs := *) lawB0 => all_goals whnf
  conv in (occs := *) lawSc => all_goals whnf
  k_steps
  unfold Stop
  rename_i D1 zs h1 F1 N1 l1 hz hzl hzl'
  refine comp_led (fun i ys tl => tl = [] ∧ IntsAre ys (((ws.take 6).take i).map fun x => x.fmod 1000000)) rfl (by k_asm) N1 (.head _) (by rw [sizeLine_eq, hz.length]; omega) ⟨rfl, .nil⟩ ?_ ?_
  · rintro i ys tl v I oI C oC D m₂ h tk E' hv ⟨rfl, hJ⟩ hC' hx F₁ N₁ off ne
    obtain ⟨d, td, rfl, hdn⟩ := hz.at i v hv
    k_steps
    refine comp_end (tl9 := []) (tl := []) (by k_asm) N₁ ord_nil (fun p hp => off p hp) ⟨rfl, ?_⟩
    rw [List.take_add_one, hdn, List.map_append]
    exact hJ.append (.cons _ _ .nil)
  · rintro g ys tl ⟨rfl, hJ⟩
    intro D h' tk F₁ N₁ o₁
    refine k D ys _ [(D, _), (D1, _)] h' tk _ F₁ N₁ ?_ (.head _) ?_ ?_
    · intro q hq p hp
      rcases List.mem_cons.mp hp with rfl | hp
      · exact Ne.symm (off1_mem o₁ q (.tail _ hq))
      · rw [List.mem_singleton.mp hp]
        exact Nat.ne_of_gt (l1 q hq)
    · rw [hz.length, List.take_length] at hJ
      exact hJ
    · funext y
      show (if _ then _ else (if y = Str.ofString "script" then some (Value.ref la) else m y)) = _
      rw [kst_one hm y]
set_option maxHeartbeats 300000 in
theorem seg1b {w : World} {p : Program} {loose : List Str} {mean : ExcName → Option Value} {mg mb : Str → Option Value} {L fa da : Addr} {h₀ : Heap} {s : Shared} {m : Str → Option Value} {news : Led} {Q : Flow → Shared → Prop} {E : Value → Shared → Prop} {rest : List Stmt} {ds : List Int} {dv : List Value} {kd : Nat}
    (Bw : Below callerA h₀ [] h₀) (X : (Mine.K w.params).In h₀) (T : Top p loose mean mg mb h₀) (F : Fr h₀ L s.heap m) (N : News h₀ L s.heap news) (hm : m (Str.ofString "drawn") = some (.ref da)) (hd : (da, listOf dv.toArray kd) ∈ news) (hI : IntsAre dv ds) (hl : ds.length ≤ 6)
    (k : ∀ (D : Addr) (us : List Value) (n : Nat) (tl : Led) (h' : Heap) (tk : Nat) (m' : Str → Option Value), Fr h₀ L h' m' → News h₀ L h' (tl ++ news) → (∀ q ∈ news, ∀ p ∈ tl, p.1 ≠ q.1) → (D, listOf us.toArray n) ∈ tl → IntsAre us (ds ++ [2, 10, 12, 25, 27, 0].drop ds.length) → m' = (fun y => if y = Str.ofString "drawn" then some (.ref D) else m y) → wpAny (model prog w) (lawA L fa) (execs rest (lawEnv L fa)) Q E { s with heap := h', toks := tk }) :
    wpAny (model prog w) (lawA L fa) (execs (lawB1 :: rest) (lawEnv L fa)) Q E s := by
  k_with_none
  (k_with "exec Assign cons ListComp" => (k_here; k_dflt (refine LCg.Assign_ListComp_U (F₀ := by k_asm) (by rfl) (by with_unfolding_all rfl) (by with_unfolding_all rfl) (by decide) (by rfl) (by decide) (by rfl) (by rfl) (by rfl) ?_)))
  (k_with "eval ListComp" => (k_here; k_dflt (refine LCg.ListComp_U (F₀ := by k_asm) (by with_unfolding_all rfl) (by decide) (by rfl) (by decide) (by rfl) ?_)))
  (k_with "CompSrc" => (k_here; refine stop ?_))
  (k_with "mine mem" => first | (refine List.mem_cons_of_mem _ ?_; ktr_member) | (refine List.mem_cons_of_mem _ (List.mem_cons_of_mem _ ?_); ktr_member) | (refine List.mem_cons_of_mem _ (List.mem_cons_of_mem _ (List.mem_cons_of_mem _ ?_)); ktr_member))
  (k_with "call builtin:len" => (k_here; k_dflt (refine' len_ints ?k1 ?k2 (by assumption) ?k3 ?_; (case k1 => k_asm); (case k2 => k_mem); (case k3 => omega); k_whole)))
  (k_with "subscriptTail Name Slice ref ref" => (k_here; refine stop ?_))
  (k_with "last subscriptTail" => (k_here; refine stop ?_))
  have F' := fr_told [(Str.ofString "drawn", .ref da)] (by intro p hp; rw [List.mem_singleton.mp hp]; exact hm) F
  dsimp only [kstB] at F'
  clear F
  have hdl := hI.length
  unfold lawA lawEnv
  conv in (occs := *) lawB1 => all_goals whnf
  conv in (occs := *) lawSc => all_goals whnf
  k_steps
  unfold Stop
  rename_i D1 h1 F1 N1 l1
  have hlit : IntsAre [Value.int 2 s.toks, Value.int 10 (s.toks + 1), Value.int 12 (s.toks + 1 + 1), Value.int 25 (s.toks + 1 + 1 + 1), Value.int 27 (s.toks + 1 + 1 + 1 + 1), Value.int 0 (s.toks + 1 + 1 + 1 + 1 + 1)] [2, 10, 12, 25, 27, 0] :=
    .cons _ _ (.cons _ _ (.cons _ _ (.cons _ _ (.cons _ _ (.cons _ _ .nil)))))
  have hpick := kmk_from hlit (x := (ds.length : Int)) (Int.natCast_nonneg _)
  rw [Int.toNat_natCast] at hpick
  refine kba_turn (value' := PySem.Expr.Name (PySem.Str.ofString "_") ⟨0, 0, 0, 0⟩) (fun _ => rfl) ?_
  refine kmk_slice_ints (c := 6 - ds.length) F1 N1 (News.isList N1 (.head _)) (IsPart.int _ _) IsPart.none hlit hpick (by rw [List.length_drop]; rfl) ?_ (by with_unfolding_all rfl) (by intro _; with_unfolding_all rfl) (by rw [sizeLine_eq]; show (6 : Nat) ≤ _; decide)
  intro D2 zs h2 F2 N2 l2 hz hzl hzl'
  refine kmk_add_ints F2 N2 (News.isList N2 (.tail _ (.tail _ hd))) (News.isList N2 (.head _)) hI hz ?_ (by rw [sizeLine_eq]; omega)
  intro D3 us h3 F3 N3 l3 hu
  k_steps
  refine k D3 us _ [(D3, _), (D2, _), (D1, _)] _ _ _ (by k_asm) (by k_asm) ?_ (.head _) hu ?_
  · intro q hq p hp
    have := l1 q hq
    have := l2 q (.tail _ hq)
    have := l3 q (.tail _ (.tail _ hq))
    simp only [List.mem_cons, List.not_mem_nil, or_false] at hp
    rcases hp with rfl | rfl | rfl
    · exact Nat.ne_of_gt (l3 q (.tail _ (.tail _ hq)))
    · exact Nat.ne_of_gt (l2 q (.tail _ hq))
    · exact Nat.ne_of_gt (l1 q hq)
  · funext y
    show (if _ then _ else (if y = Str.ofString "drawn" then some (Value.ref da) else m y)) = _
    rw [kst_one hm y]
end Mine
end
theorem Mine.clean26 : True := by
  k_with_none
  trivial
section
open PySem PySem.W PySem.Spec PySem.Calls PyProof.Rows
set_option maxHeartbeats 2000000
namespace Mine
theorem regM3 : (fun (_ : OpenLaw) (_ : Params → Frag) => True) PySem.Challenge.rw_sn0085_01 Mine.K := by
  k_fill
  exact trivial
noncomputable def prepsB (P : Params) (q : Nat × Str) : Bool := if b1S P q.1 = true then q.2 == Str.ofString "" else match b3V P q.1 with
  | some (.str x _) => x == q.2
  | some _ => false
  | none => (q.1 == 65 && q.2 == Str.ofString "a") || (q.1 == 100 && q.2 == Str.ofString "d")
theorem preps_of {P : Params} {q : Nat × Str} (h : prepsB P q = true) : Preps P q.1 q.2 := by
  unfold prepsB at h
  by_cases hb : b1S P q.1 = true
  · rw [if_pos hb] at h
    exact .inl ⟨hb, eq_of_beq h⟩
  · rw [if_neg hb] at h
    refine .inr ⟨by simpa using hb, ?_⟩
    unfold Maps
    revert h
    split
    · intro h; rename_i x t e; exact .inl ⟨t, by rw [e, eq_of_beq h]⟩
    · intro h; cases h
    · intro h
      rename_i e
      refine .inr ⟨e, ?_⟩
      rcases Bool.or_eq_true_iff.mp h with h | h
      · exact .inl ⟨eq_of_beq (Bool.and_eq_true_iff.mp h).1, eq_of_beq (Bool.and_eq_true_iff.mp h).2⟩
      · exact .inr ⟨eq_of_beq (Bool.and_eq_true_iff.mp h).1, eq_of_beq (Bool.and_eq_true_iff.mp h).2⟩
theorem signs_ok (P : Params) : (signs.all fun q => prepsB P q) = true := by kernel_rfl
theorem signs_prep (P : Params) (q : Nat × Str) (hq : q ∈ signs) : Preps P q.1 q.2 := preps_of (List.all_eq_true.mp (signs_ok P) q hq)
theorem sub_cons3 {q1 q2 q3 : Addr × Obj} {l : Led} {p : Addr × Obj} (h : p ∈ l) : p ∈ q1 :: q2 :: q3 :: ([] ++ l) := .tail _ (.tail _ (.tail _ h))
theorem seg3 {w : World} {p : Program} {loose : List Str} {mean : ExcName → Option Value} {mg mb : Str → Option Value} {L fa sa : Addr} {h₀ : Heap} {s : Shared} {m : Str → Option Value} {news : Led} {Q : Flow → Shared → Prop} {E : Value → Shared → Prop} {rest : List Stmt} {qs : List (Nat × Str)}
    (Bw : Below callerA h₀ [] h₀) (X : (Mine.K w.params).In h₀) (T : Top p loose mean mg mb h₀) (F : Fr h₀ L s.heap m) (N : News h₀ L s.heap news) (hm : m (Str.ofString "spelled") = some (.ref sa)) (hd : DatIn news (.ref sa) (.list (qs.map pairD))) (hq : ∀ q ∈ qs, q ∈ signs) (hl : qs.length = 6)
    (k : ∀ (D : Addr) (us : List Value) (n : Nat) (tl : Led) (h' : Heap) (tk : Nat) (m' : Str → Option Value), Fr h₀ L h' m' → News h₀ L h' (tl ++ news) → (∀ q ∈ news, ∀ p ∈ tl, p.1 ≠ q.1) → (D, listOf us.toArray n) ∈ tl → StrsAre us (qs.map (·.2)) → m' = (fun y => if y = Str.ofString "prepared" then some (.ref D) else m y) → wpAny (model prog w) (lawA L fa) (execs rest (lawEnv L fa)) Q E { s with heap := h', toks := tk }) :
    wpAny (model prog w) (lawA L fa) (execs (lawB3 :: rest) (lawEnv L fa)) Q E s := by
  k_with_none
  (k_with "exec Assign cons ListComp" => (k_here; k_dflt (refine LCg.Assign_ListComp_U (F₀ := by k_asm) (by rfl) (by with_unfolding_all rfl) (by with_unfolding_all rfl) (by decide) (by rfl) (by decide) (by rfl) (by rfl) (by rfl) ?_)))
  (k_with "eval ListComp" => (k_here; k_dflt (refine LCg.ListComp_U (F₀ := by k_asm) (by with_unfolding_all rfl) (by decide) (by rfl) (by decide) (by rfl) ?_)))
  (k_with "CompSrc" => (k_here; refine stop ?_))
  (k_with "mine mem" => first | (refine List.mem_cons_of_mem _ ?_; ktr_member) | (refine List.mem_cons_of_mem _ (List.mem_cons_of_mem _ ?_); ktr_member) | (refine List.mem_cons_of_mem _ (List.mem_cons_of_mem _ (List.mem_cons_of_mem _ ?_)); ktr_member))
  (k_with "call ref" => (k_here; (with_reducible show wpAny _ _ (call (Value.ref 201) _) _ _ _); refine stop ?_))
  (k_with "subscriptTail" => (k_here; (with_reducible show wpAny _ _ (subscriptTail _ _ (Value.ref _) (Value.int _ _)) _ _ _); refine stop ?_))
  have F' := fr_told [(Str.ofString "spelled", .ref sa)] (by intro p hp; rw [List.mem_singleton.mp hp]; exact hm) F
  dsimp only [kstB] at F'
  clear F
  unfold lawA lawEnv
  conv in (occs := *) lawB3 => all_goals whnf
  conv in (occs := *) lawSc => all_goals whnf
  cases hd with
  | @list _ its kk _ hsm hits =>
  have hil := hits.length
  rw [List.length_map, hl] at hil
  k_steps
  unfold Stop
  refine comp_led (fun i ys tl => tl = [] ∧ StrsAre ys ((qs.take i).map (·.2))) rfl (by k_asm) N hsm (by rw [sizeLine_eq, hil]; decide) ⟨rfl, .nil⟩ ?_ ?_
  · rintro i ys tl v I oI C oC D m₂ h tk E' hv ⟨rfl, hJ⟩ hC' hx F₁ N₁ off ne
    have hi : i < qs.length := by
      have := (List.getElem?_eq_some_iff.mp hv).1
      omega
    obtain ⟨v', hv', hD⟩ := hits.get (k := i) (by rw [List.length_map]; exact hi)
    rw [hv] at hv'
    cases hv'
    rw [List.getElem_map] at hD
    have hqi := hq qs[i] (List.getElem_mem hi)
    have hqe : qs[i]? = some qs[i] := List.getElem?_eq_getElem hi
    generalize qs[i] = q at hD hqi hqe
    cases v with
    | ref pa =>
      k_steps
      unfold Stop
      refine d_tup (k := 0) N₁ hD (fun p hp => sub_cons3 hp) rfl (by decide) ?_
      intro v9 D9
      cases D9
      k_steps
      unfold Stop
      refine' callD_use (prep_spec q.1 q.2 _ (signs_prep _ q hqi) _) ?k1 ?k2 ?k3 ?k4 ?k5 ?k6 ?k7 ?k8 ?_
      case k1 => k_asm
      case k2 => k_asm
      case k3 => k_asm
      case k4 => k_asm
      case k5 => k_asm
      case k6 => first | exact rfl | assumption
      case k7 => first | omega | ktr_room
      case k8 => first | omega | ktr_units
      intro r9 tl9 h9 tk9 F9 N9 o9 p9
      obtain ⟨rfl, t9, rfl⟩ := p9
      refine comp_end (tl9 := []) (tl := []) F9 N9 ord_nil off ⟨rfl, ?_⟩
      rw [List.take_add_one, hqe, List.map_append]
      exact hJ.append' (.cons _ _ .nil)
    | _ => cases hD
  · rintro g ys tl ⟨rfl, hJ⟩
    intro D h' tk F₁ N₁ o₁
    refine k D ys _ [(D, _)] h' tk _ F₁ N₁ ?_ (.head _) ?_ ?_
    · intro q hq p hp
      rw [List.mem_singleton.mp hp]
      exact Ne.symm (off1_mem o₁ q hq)
    · rw [hil, ← hl, List.take_length] at hJ
      exact hJ
    · funext y
      show (if _ then _ else (if y = Str.ofString "spelled" then some (Value.ref sa) else m y)) = _
      rw [kst_one hm y]
theorem dat_of_strs {L : Led} {vs : List Value} {ns : List Str} (h : StrsAre vs ns) : DatAll L vs (ns.map Dat.str) := by
  induction h with
  | nil => exact .nil
  | cons n t _ ih => exact .cons (.str _ _) ih
theorem strs_ne_same {prog : Program} {w : World} {A : Around} {E : Value → Shared → Prop} {s : Shared} {h₀ : Heap} {L a b : Addr} {news : Led} {xs ys : List Value} {ns : List Str} {oa ob : Obj} {ka kb : Nat} {Q : Value → Shared → Prop} (N : News h₀ L s.heap news) (ma : (a, oa) ∈ news) (ca : oa.cls = .type "list") (da : oa.data = .seq xs.toArray ka) (hi : StrsAre xs ns) (mb : (b, ob) ∈ news) (cb : ob.cls = .type "list") (db : ob.data = .seq ys.toArray kb) (hj : StrsAre ys ns) (hok : ∀ x ∈ ns, PyData.strOk x = true) (hu : A.units + 64 < cLine)
    (h : Q (.bool false) s) : wpAny (model prog w) A (compareOp .NotEq (.ref a) (.ref b)) Q E s := by
  classical
  refine kqd_ne N ma ca da (dat_of_strs (L := []) hi) (fun _ h => nomatch h) mb cb db (dat_of_strs (L := []) hj) (fun _ h => nomatch h) ?_ ?_ hu ?_
  · intro d hd; obtain ⟨x, hx, rfl⟩ := List.mem_map.mp hd; exact hok x hx
  · intro d hd; obtain ⟨x, hx, rfl⟩ := List.mem_map.mp hd; exact hok x hx
  · rw [decide_eq_true rfl]; exact h
theorem signs_strOk : ∀ q ∈ signs, PyData.strOk q.2 = true := by decide +kernel
theorem seg4 {w : World} {p : Program} {loose : List Str} {mean : ExcName → Option Value} {mg mb : Str → Option Value} {L fa sa pa : Addr} {h₀ : Heap} {s : Shared} {m : Str → Option Value} {news : Led} {Q : Flow → Shared → Prop} {E : Value → Shared → Prop} {rest : List Stmt} {qs : List (Nat × Str)} {pv : List Value} {pk : Nat}
    (Bw : Below callerA h₀ [] h₀) (X : (Mine.K w.params).In h₀) (T : Top p loose mean mg mb h₀) (F : Fr h₀ L s.heap m) (N : News h₀ L s.heap news) (hm : m (Str.ofString "spelled") = some (.ref sa)) (hmp : m (Str.ofString "prepared") = some (.ref pa)) (hd : DatIn news (.ref sa) (.list (qs.map pairD))) (hp : (pa, listOf pv.toArray pk) ∈ news) (hps : StrsAre pv (qs.map (·.2))) (hq : ∀ q ∈ qs, q ∈ signs) (hl : qs.length = 6)
    (k : ∀ (tl : Led) (h' : Heap) (tk : Nat) (m' : Str → Option Value), Fr h₀ L h' m' → News h₀ L h' (tl ++ news) → (∀ q ∈ news, ∀ p ∈ tl, p.1 ≠ q.1) → m' = m → wpAny (model prog w) (lawA L fa) (execs rest (lawEnv L fa)) Q E { s with heap := h', toks := tk }) :
    wpAny (model prog w) (lawA L fa) (execs (lawB4 :: rest) (lawEnv L fa)) Q E s := by
  k_with_none
  (k_with "exec Assign cons ListComp" => (k_here; k_dflt (refine LCg.Assign_ListComp_U (F₀ := by k_asm) (by rfl) (by with_unfolding_all rfl) (by with_unfolding_all rfl) (by decide) (by rfl) (by decide) (by rfl) (by rfl) (by rfl) ?_)))
  (k_with "eval ListComp" => (k_here; k_dflt (refine LCg.ListComp_U (F₀ := by k_asm) (by with_unfolding_all rfl) (by decide) (by rfl) (by decide) (by rfl) ?_)))
  (k_with "CompSrc" => (k_here; refine stop ?_))
  (k_with "mine mem" => first | (refine List.mem_cons_of_mem _ ?_; ktr_member) | (refine List.mem_cons_of_mem _ (List.mem_cons_of_mem _ ?_); ktr_member) | (refine List.mem_cons_of_mem _ (List.mem_cons_of_mem _ (List.mem_cons_of_mem _ ?_)); ktr_member))
  (k_with "call ref" => (k_here; (with_reducible show wpAny _ _ (call (Value.ref 201) _) _ _ _); refine stop ?_))
  (k_with "subscriptTail" => (k_here; (with_reducible show wpAny _ _ (subscriptTail _ _ (Value.ref _) (Value.int _ _)) _ _ _); refine stop ?_))
  (k_with "compareOp NotEq ref ref" => (k_here; refine stop ?_))
  have F' := fr_told [(Str.ofString "spelled", .ref sa), (Str.ofString "prepared", .ref pa)] (by intro p hp; simp only [List.mem_cons, List.not_mem_nil, or_false] at hp; rcases hp with rfl | rfl <;> assumption) F
  dsimp only [kstB] at F'
  clear F
  unfold lawA lawEnv
  conv in (occs := *) lawB4 => all_goals whnf
  conv in (occs := *) lawSc => all_goals whnf
  cases hd with
  | @list _ its kk _ hsm hits =>
  have hil := hits.length
  rw [List.length_map, hl] at hil
  k_steps
  unfold Stop
  refine comp_led (fun i ys tl => tl = [] ∧ StrsAre ys ((qs.take i).map (·.2))) rfl (by k_asm) N hsm (by rw [sizeLine_eq, hil]; decide) ⟨rfl, .nil⟩ ?_ ?_
  · rintro i ys tl v I oI C oC D m₂ h tk E' hv ⟨rfl, hJ⟩ hC' hx F₁ N₁ off ne
    have hi : i < qs.length := by
      have := (List.getElem?_eq_some_iff.mp hv).1
      omega
    obtain ⟨v', hv', hD⟩ := hits.get (k := i) (by rw [List.length_map]; exact hi)
    rw [hv] at hv'
    cases hv'
    rw [List.getElem_map] at hD
    have hqe : qs[i]? = some qs[i] := List.getElem?_eq_getElem hi
    generalize qs[i] = q at hD hqe
    cases v with
    | ref pa =>
      k_steps
      unfold Stop
      refine d_tup (k := 1) N₁ hD (fun p hp => sub_cons3 hp) rfl (by decide) ?_
      intro v9 D9
      cases D9
      refine comp_end (tl9 := []) (tl := []) F₁ N₁ ord_nil off ⟨rfl, ?_⟩
      rw [List.take_add_one, hqe, List.map_append]
      exact hJ.append' (.cons _ _ .nil)
    | _ => cases hD
  · rintro g ys tl ⟨rfl, hJ⟩
    rw [hil, ← hl, List.take_length] at hJ
    intro D h' tk F₁ N₁ o₁
    k_steps
    unfold Stop
    refine strs_ne_same N₁ (.tail _ hp) rfl rfl hps (.head _) rfl rfl hJ (by intro x hx; obtain ⟨q, hqm, rfl⟩ := List.mem_map.mp hx; exact signs_strOk q (hq q hqm)) (by ktr_units) ?_
    k_steps
    refine k [(D, _)] _ _ _ (by k_asm) (by k_asm) ?_ ?_
    · intro q hq p hp
      rw [List.mem_singleton.mp hp]
      exact Ne.symm (off1_mem o₁ q hq)
    · funext y
      show (if y = Str.ofString "spelled" then some (Value.ref sa) else if y = Str.ofString "prepared" then some (Value.ref pa) else m y) = _
      rw [kst_one hmp y, kst_one hm y]
theorem signs_len : ∀ q ∈ signs, (q.2.length : Int) ≤ 5 := by decide +kernel
theorem seg5 {w : World} {p : Program} {loose : List Str} {mean : ExcName → Option Value} {mg mb : Str → Option Value} {L fa pa : Addr} {h₀ : Heap} {s : Shared} {m : Str → Option Value} {news : Led} {Q : Flow → Shared → Prop} {E : Value → Shared → Prop} {rest : List Stmt} {qs : List (Nat × Str)} {pv : List Value} {pk : Nat}
    (Bw : Below callerA h₀ [] h₀) (X : (Mine.K w.params).In h₀) (T : Top p loose mean mg mb h₀) (F : Fr h₀ L s.heap m) (N : News h₀ L s.heap news) (hm : m (Str.ofString "prepared") = some (.ref pa)) (hp : (pa, listOf pv.toArray pk) ∈ news) (hps : StrsAre pv (qs.map (·.2))) (hq : ∀ q ∈ qs, q ∈ signs) (hl : qs.length = 6)
    (k : ∀ (D : Addr) (tl : Led) (h' : Heap) (tk : Nat) (m' : Str → Option Value), Fr h₀ L h' m' → News h₀ L h' (tl ++ news) → (∀ q ∈ news, ∀ p ∈ tl, p.1 ≠ q.1) → DatIn tl (.ref D) (.list (waysD (waysAt (qs.map fun q => (q.2.length : Int)) 6).1)) → m' = (fun y => if y = Str.ofString "ways" then some (.ref D) else m y) → wpAny (model prog w) (lawA L fa) (execs rest (lawEnv L fa)) Q E { s with heap := h', toks := tk }) :
    wpAny (model prog w) (lawA L fa) (execs (lawB5 :: rest) (lawEnv L fa)) Q E s := by
  k_with_none
  (k_with "exec Assign cons ListComp" => (k_here; k_dflt (refine LCg.Assign_ListComp_U (F₀ := by k_asm) (by rfl) (by with_unfolding_all rfl) (by with_unfolding_all rfl) (by decide) (by rfl) (by decide) (by rfl) (by rfl) (by rfl) ?_)))
  (k_with "eval ListComp" => (k_here; k_dflt (refine LCg.ListComp_U (F₀ := by k_asm) (by with_unfolding_all rfl) (by decide) (by rfl) (by decide) (by rfl) ?_)))
  (k_with "CompSrc" => (k_here; refine stop ?_))
  (k_with "mine mem" => first | (refine List.mem_cons_of_mem _ ?_; ktr_member) | (refine List.mem_cons_of_mem _ (List.mem_cons_of_mem _ ?_); ktr_member) | (refine List.mem_cons_of_mem _ (List.mem_cons_of_mem _ (List.mem_cons_of_mem _ ?_)); ktr_member))
  (k_with "call ref" => (k_here; (with_reducible show wpAny _ _ (call (Value.ref 201) _) _ _ _); refine stop ?_))
  (k_with "subscriptTail" => (k_here; (with_reducible show wpAny _ _ (subscriptTail _ _ (Value.ref _) (Value.int _ _)) _ _ _); refine stop ?_))
  (k_with "compareOp NotEq ref ref" => (k_here; refine stop ?_))
  (k_with "call ref" => (k_here; (with_reducible show wpAny _ _ (call (Value.ref 208) _) _ _ _); refine stop ?_))
  (k_with "mine dummy1" => skip)
  have F' := fr_told [(Str.ofString "prepared", .ref pa)] (by intro p hp; rw [List.mem_singleton.mp hp]; exact hm) F
  dsimp only [kstB] at F'
  clear F
  unfold lawA lawEnv
  conv in (occs := *) lawB5 => all_goals whnf
  conv in (occs := *) lawSc => all_goals whnf
  have hpl := hps.length
  rw [List.length_map, hl] at hpl
  k_steps
  unfold Stop
  refine comp_led (fun i ys tl => tl = [] ∧ IntsAre ys ((qs.take i).map fun q => (q.2.length : Int))) rfl (by k_asm) N hp (by rw [sizeLine_eq, hpl]; decide) ⟨rfl, .nil⟩ ?_ ?_
  · rintro i ys tl v I oI C oC D m₂ h tk E' hv ⟨rfl, hJ⟩ hC' hx F₁ N₁ off ne
    obtain ⟨x, tx, rfl, hxe⟩ := hps.item i v hv
    rw [List.getElem?_map] at hxe
    obtain ⟨q, hqe, rfl⟩ := Option.map_eq_some_iff.mp hxe
    k_steps
    refine PyProof.Rows.len_str (by have := signs_len q (hq q (List.mem_of_getElem? hqe)); omega) ?_
    refine' comp_end (tl9 := []) (tl := []) ?kf N₁ ord_nil off ?kj
    case kf => k_asm
    refine ⟨rfl, ?_⟩
    rw [List.take_add_one, hqe, List.map_append]
    exact hJ.append (.cons _ _ .nil)
  · rintro g ys tl ⟨rfl, hJ⟩
    rw [hpl, ← hl, List.take_length] at hJ
    intro D h' tk F₁ N₁ o₁
    k_steps
    unfold Stop
    refine' callD_use (ways_spec D ys _ _ _ (.head _) hJ ?a1 ?a2) ?k1 ?k2 ?k3 ?k4 ?k5 ?k6 ?k7 ?k8 ?_
    case k1 => k_asm
    case k2 => k_asm
    case k3 => k_asm
    case k4 => k_asm
    case k5 => k_asm
    case k6 => first | exact rfl | assumption
    case k7 => first | omega | ktr_room
    case k8 => first | omega | ktr_units
    case a1 => rw [List.length_map, hl]
    case a2 =>
      intro c hc
      obtain ⟨q, hqm, rfl⟩ := List.mem_map.mp hc
      exact ⟨Int.natCast_nonneg _, signs_len q (hq q hqm)⟩
    intro r9 tl9 h9 tk9 F9 N9 o9 p9
    have p9' := p9
    cases p9' with
    | list hw9 hd9 =>
      k_steps
      refine k _ (tl9 ++ [(D, _)]) _ _ _ (by k_asm) (by rw [List.append_assoc]; k_asm) ?_ (p9.mono fun p hp => List.mem_append.mpr (.inl hp)) ?_
      · intro q hq p hp
        rcases List.mem_append.mp hp with hp | hp
        · exact Nat.ne_of_gt (o9 q (.tail _ hq) p hp)
        · rw [List.mem_singleton.mp hp]
          exact Ne.symm (off1_mem o₁ q hq)
      · funext y
        show (if _ then _ else (if y = Str.ofString "prepared" then some (Value.ref pa) else m y)) = _
        rw [kst_one hm y]
end Mine
end
theorem Mine.clean27 : True := by
  k_with_none
  trivial
section
open PySem PySem.W PySem.Spec PySem.Calls PyProof.Rows
set_option maxHeartbeats 4000000
namespace Mine
theorem regD : (fun (_ : OpenLaw) (_ : Params → Frag) => True) PySem.Challenge.rw_sn0085_01 Mine.K := by
  k_fill
  exact trivial
structure WS where
  count : List Int
  b : Int
  n : Int
  nt : Int
noncomputable def bump (l : List Int) (b : Int) : List Int :=
  if (l.length : Int) ≤ b then (l ++ (List.replicate (b - l.length + 1).toNat [0]).flatten).set b.toNat ((l ++ (List.replicate (b - l.length + 1).toNat [0]).flatten).getD b.toNat 0 + 1)
  else l.set b.toNat (l.getD b.toNat 0 + 1)
noncomputable def wsStep (st : WS) (c : Nat) : WS := if c = 32 then { st with b := st.b + 1, n := st.n + 1 } else { count := bump st.count st.b, b := 0, n := st.n + 1, nt := st.nt + 1 }
noncomputable def wsAt (x : Str) (i : Nat) : WS := (x.cps.toList.take i).foldl wsStep ⟨[], 0, 0, 0⟩
theorem bump_length (l : List Int) (b : Int) (n : Nat) (h1 : (l.length : Int) ≤ n) (h2 : b < n) : ((bump l b).length : Int) ≤ n := by
  unfold bump
  split
  · rw [List.length_set, List.length_append, List.length_flatten, List.map_replicate, List.sum_replicate_nat]; simp only [List.length_cons, List.length_nil]; omega
  · rw [List.length_set]; exact h1
theorem wsAt_succ (x : Str) (i : Nat) (c : Nat) (h : x.cps[i]? = some c) : wsAt x (i + 1) = wsStep (wsAt x i) c := by
  unfold wsAt
  have : x.cps.toList[i]? = some c := by simpa using h
  rw [List.take_add_one, this]; simp
theorem wsAt_bounds (x : Str) : ∀ i, 0 ≤ (wsAt x i).b ∧ (wsAt x i).b ≤ i ∧ 0 ≤ (wsAt x i).n ∧ (wsAt x i).n ≤ i ∧ 0 ≤ (wsAt x i).nt ∧ (wsAt x i).nt ≤ i ∧ ((wsAt x i).count.length : Int) ≤ i := by
  intro i
  induction i with
  | zero =>
    have e : wsAt x 0 = ⟨[], 0, 0, 0⟩ := rfl
    rw [e]
    exact ⟨by decide, by decide, by decide, by decide, by decide, by decide, by decide⟩
  | succ i ih =>
    cases hc : x.cps[i]? with
    | none =>
      have : x.cps.toList.take (i + 1) = x.cps.toList.take i := by
        rw [List.take_add_one]
        have : x.cps.toList[i]? = none := by simpa using hc
        rw [this]; simp
      have e : wsAt x (i + 1) = wsAt x i := by unfold wsAt; rw [this]
      rw [e]; obtain ⟨a1, a2, a3, a4, a5, a6, a7⟩ := ih
      exact ⟨a1, by omega, a3, by omega, a5, by omega, by omega⟩
    | some c =>
      rw [wsAt_succ x i c hc]
      obtain ⟨a1, a2, a3, a4, a5, a6, a7⟩ := ih
      unfold wsStep
      split
      · exact ⟨by show 0 ≤ (wsAt x i).b + 1; omega, by show (wsAt x i).b + 1 ≤ _; omega, by show 0 ≤ (wsAt x i).n + 1; omega, by show (wsAt x i).n + 1 ≤ _; omega, a5, by show (wsAt x i).nt ≤ _; omega, by show ((wsAt x i).count.length : Int) ≤ _; omega⟩
      · exact ⟨Int.le_refl 0, by show (0 : Int) ≤ _; omega, by show 0 ≤ (wsAt x i).n + 1; omega, by show (wsAt x i).n + 1 ≤ _; omega, by show 0 ≤ (wsAt x i).nt + 1; omega, by show (wsAt x i).nt + 1 ≤ _; omega, bump_length _ _ _ (by omega) (by omega)⟩
local macro_rules | `(tactic| walk_at "call type:tuple") => `(tactic| (k_here; (with_reducible show wpAny _ _ (call (Value.type _) [Value.ref _]) _ _ _); k_dflt (refine' tuple_K ?k1 ?k2 ?k3 ?k4 ?_; (case k1 => k_asm); (case k2 => k_asm); (case k3 => k_mem); (case k4 => rw [List.size_toArray, sizeLine_eq]; omega); k_whole); intro l' h' F' N' l1; (try k_lt l1); (try k_sweep)))
theorem pick4 {h₀ h : Heap} {L : Addr} {a b c d e f : Addr × Obj} {R : Led} (N : News h₀ L h (a :: b :: c :: d :: e :: f :: R)) : News h₀ L h ([a, b, e, f] ++ R) := fun p hp => N p (by
  simp only [List.cons_append, List.nil_append, List.mem_cons] at hp ⊢
  rcases hp with h | h | h | h | h <;> simp [h])
theorem ord4 {a b c d : Addr × Obj} {news : Led} (ha : AllLt a.1 news) (hb : AllLt b.1 news) (hc : ∀ q ∈ news, q.1 < c.1) (hd : ∀ q ∈ news, q.1 < d.1) : ∀ q ∈ news, ∀ p ∈ [a, b, c, d], q.1 < p.1 := fun q hq p hp => by
  simp only [List.mem_cons, List.not_mem_nil, or_false] at hp
  rcases hp with rfl | rfl | rfl | rfl
  · exact ktn_ltOf ha q hq
  · exact ktn_ltOf hb q hq
  · exact hc q hq
  · exact hd q hq
theorem pickA {h₀ h : Heap} {L : Addr} {a b c q e : Addr × Obj} {R : Led} (N : News h₀ L h (a :: b :: c :: q :: e :: R)) : News h₀ L h (q :: a :: R) := fun p hp => N p (by
  rcases List.mem_cons.mp hp with rfl | hp
  · simp
  · rcases List.mem_cons.mp hp with rfl | hp
    · simp
    · simp [hp])
theorem ne_of_news {h₀ h : Heap} {L D d : Addr} {o o' : Obj} {news : Led} (N : News h₀ L h news) (h1 : (D, o) ∈ news) (h2 : (d, o') ∈ news) (ho : o.cls ≠ o'.cls) : @Ne Nat D d := fun e => by
  have a := (N _ h1).1
  have b := (N _ h2).1
  dsimp only at a b
  rw [show D = d from e, b] at a
  exact ho (by rw [Option.some.inj a])
theorem split_head {h₀ h : Heap} {L : Addr} {q : Addr × Obj} {R : Led} {P : Prop} (N : News h₀ L h (q :: R)) (k : ∀ R', R' = R → News h₀ L h (q :: R') → P) : P := k R rfl N
/-- a Whitespace of the text x, read to st -/
noncomputable def WsIn (P : Params) (tl : Led) (r : Value) (x : Str) (st : WS) : Prop :=
  ∃ (xa dx na ca : Addr) (vs : List Value) (k1 k2 k3 k4 k5 v1 v2 v3 v4 : Tok), r = .ref xa ∧ (xa, instObj 83 dx) ∈ tl ∧
    (dx, dictOf [⟨PyData.keyHash P (Str.ofString "raw"), .str (Str.ofString "raw") k1, .str x v1⟩, ⟨PyData.keyHash P (Str.ofString "n"), .str (Str.ofString "n") k2, .int st.n v2⟩, ⟨PyData.keyHash P (Str.ofString "nt"), .str (Str.ofString "nt") k3, .int st.nt v3⟩,
      ⟨PyData.keyHash P (Str.ofString "norm"), .str (Str.ofString "norm") k4, .ref na⟩, ⟨PyData.keyHash P (Str.ofString "is_simple"), .str (Str.ofString "is_simple") k5, .bool (decide ((st.count.length : Int) ≤ 1))⟩] 5) ∈ tl ∧
    (na, ({ cls := .type "tuple", data := .seq #[.ref ca, .int st.b v4] } : Obj)) ∈ tl ∧ (ca, ({ cls := .type "tuple", data := .seq vs.toArray } : Obj)) ∈ tl ∧ IntsAre vs st.count
theorem init_spec {w p loose mean mg mb} (x : Str) (t : Tok) (hx : ∀ c ∈ x.cps.toList, c = 32 ∨ c = 9) (hl : x.length ≤ 40) (news : Led) : CallD w p loose mean mg mb 83 2 24 news [.str x t] (fun tl r => WsIn w.params tl r x (wsAt x x.cps.size)) := by
  k_with_none
  (k_with "mine all" => assumption)
  intro dp un gd cn cs a ccd cl outer A₀ base h₀ L m s Q E B F X N T hk hd hu hret
  refine' call_cls ?k1 ?k2 ?k3 ?k4 ?k5 ?k6 ?_
  (case k1 => k_asm); (case k2 => k_asm); (case k3 => k_asm); (case k4 => k_is); (case k5 => k_is); (case k6 => k_is)
  intro x' d' h' F' N' l1 l2; (try k_lt l1); (try k_lt2 l2); (try k_sweep)
  k_dflt ktr_enter
  conv in (occs := *) fnBody _ => all_goals whnf
  conv in (occs := *) fnScope _ => all_goals whnf
  conv in (occs := *) fnArgs _ => all_goals whnf
  k_steps
  rename News _ _ _ _ => N1
  refine split_head N1 fun RO eRO N2 => ?_
  refine loopStr (fun i m nx => ∃ (st : WS) (lc : Addr) (vs : List Value) (k : Nat) (tb tn tnt tS tT : Tok), st = wsAt x i ∧ m (Str.ofString "b") = some (.int st.b tb) ∧ m (Str.ofString "n") = some (.int st.n tn) ∧ m (Str.ofString "nt") = some (.int st.nt tnt) ∧ m (Str.ofString "count") = some (.ref lc) ∧
    m (Str.ofString "S") = some (.str (Str.ofString " ") tS) ∧ m (Str.ofString "T") = some (.str (Str.ofString "\t") tT) ∧ m (Str.ofString "self") = some (.ref x') ∧ nx = (lc, listOf vs.toArray k) :: RO ∧ (∀ p ∈ RO, p.1 ≠ lc) ∧ IntsAre vs st.count) rfl (by k_asm) N2 ?_ ?_ ?_
  · refine ⟨⟨[], 0, 0, 0⟩, _, [], 0, _, _, _, _, _, rfl, rfl, rfl, rfl, rfl, rfl, rfl, rfl, rfl, ?_, .nil⟩
    subst eRO
    exact fun p hp => Nat.ne_of_lt (ktn_ltOf (by assumption) p hp)
  · clear N1 N2
    rintro i c tc m₁ news₁ h₂ tk₂ q hc ⟨st, lc, vs, k, tb, tn, tnt, tS, tT, hst, eb, en, ent, ec, eS, eT, eself, rfl, hoff, hvs⟩ hq F₁ N₁
    have hcc : c = 32 ∨ c = 9 := hx c (Array.mem_toList_iff.mpr (Array.mem_of_getElem? hc))
    have hi40 : i < 40 := by
      have := (Array.getElem?_eq_some_iff.mp hc).1
      have h9 : x.cps.size ≤ 40 := hl
      omega
    have hbd := wsAt_bounds x i
    rw [← hst] at hbd
    obtain ⟨a1, a2, a3, a4, a5, a6, a7⟩ := hbd
    have hsucc := wsAt_succ x i c hc
    rw [← hst] at hsucc
    have F₂ := fr_tell [(Str.ofString "b", .int st.b tb), (Str.ofString "n", .int st.n tn), (Str.ofString "nt", .int st.nt tnt), (Str.ofString "count", .ref lc), (Str.ofString "S", .str (Str.ofString " ") tS), (Str.ofString "T", .str (Str.ofString "\t") tT), (Str.ofString "self", .ref x')]
      (by intro p hp _; simp only [List.mem_cons, List.not_mem_nil, or_false] at hp; rcases hp with rfl | rfl | rfl | rfl | rfl | rfl | rfl <;> assumption) F₁
    obtain ⟨I, oI⟩ := q
    have hqI : @Ne Nat lc I := hq _ (.head _)
    have hqR : ∀ p ∈ RO, p.1 ≠ I := fun p hp => hq p (.tail _ hp)
    clear hq
    clear F₁ eb en ent ec eS eT eself
    have hlen := hvs.length
    clear hst hc
    rcases hcc with rfl | rfl
    · k_steps
      refine ⟨_, _, _, (lc, listOf vs.toArray k) :: RO, rfl, by k_asm, by k_asm, ?_, wsStep st 32, lc, vs, k, _, _, _, _, _, hsucc.symm, rfl, rfl, rfl, rfl, rfl, rfl, rfl, rfl, hoff, hvs⟩
      exact fun p hp => (List.mem_cons.mp hp).elim (fun e => e ▸ hqI) (hqR p)
    · k_steps
      · rename News _ _ _ _ => N3
        rename IntsAre (List.set _ _ _) _ => hi3
        rename _ ∧ _ ∧ _ ∧ _ ∧ AllLt _ RO => l3
        rename ((_ : Int) ≤ st.b) => hle
        have hcnt : (wsStep st 9).count = _ := if_pos hle
        refine ⟨_, _, _, _, rfl, by k_asm, pickA N3, ?_, wsStep st 9, _, _, _, _, _, _, _, _, hsucc.symm, rfl, rfl, rfl, rfl, rfl, rfl, rfl, rfl, fun p hp => Nat.ne_of_lt (ktn_ltOf l3.2.2.2.2 p hp), by rw [hcnt]; exact hi3⟩
        exact fun p hp => (List.mem_cons.mp hp).elim (fun e => e ▸ (Nat.ne_of_gt l3.2.2.1)) (hqR p)
      · rename News _ _ _ _ => N3
        rename IntsAre (List.set _ _ _) _ => hi3
        rename (¬ (_ : Int) ≤ st.b) => hle
        have hcnt : (wsStep st 9).count = _ := if_neg hle
        refine ⟨_, _, _, _, rfl, by k_asm, N3, ?_, wsStep st 9, _, _, _, _, _, _, _, _, hsucc.symm, rfl, rfl, rfl, rfl, rfl, rfl, rfl, rfl, hoff, by rw [hcnt]; exact hi3⟩
        exact fun p hp => (List.mem_cons.mp hp).elim (fun e => e ▸ hqI) (hqR p)
  · rintro m₁ news₁ h₂ tk₂ ⟨st, lc, vs, k, tb, tn, tnt, tS, tT, hst, eb, en, ent, ec, eS, eT, eself, rfl, hoff, hvs⟩ F₁ N₁
    subst eRO
    have hbd := wsAt_bounds x x.cps.size
    rw [← hst] at hbd
    obtain ⟨a1, a2, a3, a4, a5, a6, a7⟩ := hbd
    have hsz : x.cps.size ≤ 40 := hl
    have F₂ := fr_told [(Str.ofString "b", .int st.b tb), (Str.ofString "n", .int st.n tn), (Str.ofString "nt", .int st.nt tnt), (Str.ofString "count", .ref lc), (Str.ofString "self", .ref x')]
      (by intro p hp; simp only [List.mem_cons, List.not_mem_nil, or_false] at hp; rcases hp with rfl | rfl | rfl | rfl | rfl <;> assumption) F₁
    clear N1 N2 F₁ eb en ent ec eS eT eself
    have hlen := hvs.length
    have hld : @Ne Nat lc d' := (hoff _ (.tail _ (.tail _ (.head _)))).symm
    have hnd : ∀ p ∈ news, p.1 ≠ d' := fun p hp => Nat.ne_of_lt (l1 p hp)
    dsimp only
    k_steps
    rename _ ∧ _ ∧ _ ∧ _ ∧ _ ∧ AllLt _ news => lD
    rename _ ∧ _ ∧ _ ∧ _ ∧ AllLt _ news => lT
    rename News h₀ L _ _ => kN
    subst hst
    exact hret _ _ _ _ (by k_asm) (pick4 kN) (ord4 lD.2.2.2.2.2 lT.2.2.2.2 (fun q hq => Nat.lt_trans (l1 q hq) l2) l1)
      ⟨x', d', _, _, vs, _, _, _, _, _, _, _, _, _, rfl, .tail _ (.tail _ (.head _)), .tail _ (.tail _ (.tail _ (.head _))), .head _, .tail _ (.head _), hvs⟩
end Mine
end
theorem Mine.clean28 : True := by
  k_with_none
  trivial
local macro_rules | `(tactic| walk_at "mine none") => `(tactic| fail "none")
local macro_rules | `(tactic| walk_at "mine none") => `(tactic| fail "none")
section
open PySem PySem.W PySem.Spec PySem.Calls PyProof.Rows
set_option maxHeartbeats 2000000
namespace Mine
theorem regM8 : (fun (_ : OpenLaw) (_ : Params → Frag) => True) PySem.Challenge.rw_sn0085_01 Mine.K := by
  k_fill
  exact trivial

noncomputable def rep (n : Int) : List Nat := List.replicate n.toNat 41
noncomputable def textAt (ways : List (List Int)) (qs : List (Nat × Str)) : Nat → List Nat
  | 0 => []
  | i + 1 => (if i = 0 then textAt ways qs i else textAt ways qs i ++ rep (((ways.getD (i - 1) []).length : Int) - (ways.getD i []).length + 1)) ++ [40, (qs.getD i (0, Str.ofString "")).1]
noncomputable def placeAt (ways : List (List Int)) (qs : List (Nat × Str)) (i : Nat) : Nat := (if i = 0 then textAt ways qs i else textAt ways qs i ++ rep (((ways.getD (i - 1) []).length : Int) - (ways.getD i []).length + 1)).length
theorem textAt_len (ways : List (List Int)) (qs : List (Nat × Str)) (hws : ∀ x ∈ ways, x.length ≤ 6) : ∀ i, (textAt ways qs i).length ≤ 9 * i
  | 0 => Nat.le_refl _
  | i + 1 => by
    have ih := textAt_len ways qs hws i
    have h1 := way_len ways (i - 1) hws
    have h2 := way_len ways i hws
    unfold textAt
    rw [List.length_append]
    split
    · simp only [List.length_cons, List.length_nil]; omega
    · rw [List.length_append]; simp only [rep, List.length_replicate, List.length_cons, List.length_nil]; omega
theorem text_yes {ways : List (List Int)} {qs : List (Nat × Str)} {i : Nat} (h : 0 < (i : Int)) : ((textAt ways qs i ++ List.replicate (((ways.getD ((i : Int) - 1).toNat []).length : Int) - (ways.getD (i : Int).toNat []).length + 1).toNat 41) ++ [40]) ++ [(qs.getD (i : Int).toNat (0, Str.ofString "")).1] = textAt ways qs (i + 1) := by
  have hi : i ≠ 0 := by omega
  show _ = (if i = 0 then _ else _) ++ _
  rw [if_neg hi, show ((i : Int) - 1).toNat = i - 1 by omega, Int.toNat_natCast, List.append_assoc _ [40]]; rfl
theorem place_yes {ways : List (List Int)} {qs : List (Nat × Str)} {i : Nat} (h : 0 < (i : Int)) : (textAt ways qs i ++ List.replicate (((ways.getD ((i : Int) - 1).toNat []).length : Int) - (ways.getD (i : Int).toNat []).length + 1).toNat 41).length = placeAt ways qs i := by
  have hi : i ≠ 0 := by omega
  unfold placeAt
  rw [if_neg hi, show ((i : Int) - 1).toNat = i - 1 by omega, Int.toNat_natCast]; rfl
theorem text_no {ways : List (List Int)} {qs : List (Nat × Str)} {i : Nat} (h : ¬ 0 < (i : Int)) : (textAt ways qs i ++ [40]) ++ [(qs.getD (i : Int).toNat (0, Str.ofString "")).1] = textAt ways qs (i + 1) := by
  have hi : i = 0 := by omega
  show _ = (if i = 0 then _ else _) ++ _
  rw [if_pos hi, Int.toNat_natCast, List.append_assoc _ [40]]; rfl
theorem place_no {ways : List (List Int)} {qs : List (Nat × Str)} {i : Nat} (h : ¬ 0 < (i : Int)) : (textAt ways qs i).length = placeAt ways qs i := by
  have hi : i = 0 := by omega
  unfold placeAt
  rw [if_pos hi]
theorem place_snoc {ways : List (List Int)} {qs : List (Nat × Str)} {i n : Nat} {t : Tok} {pv : List Value} (h : IntsAre pv ((List.range i).map fun j => (placeAt ways qs j : Int))) (e : n = placeAt ways qs i) : IntsAre (pv ++ [.int (n : Int) t]) ((List.range (i + 1)).map fun j => (placeAt ways qs j : Int)) := by
  rw [List.range_succ, List.map_append, e]
  exact h.append (.cons _ _ .nil)
theorem textV {l l' : List Nat} {t : Tok} (h : l = l') : some (Value.str ⟨l.toArray⟩ t) = some (Value.str ⟨l'.toArray⟩ t) := by rw [h]
noncomputable def PlaceJ (L : Addr) (news : Led) (ways : List (List Int)) (qs : List (Nat × Str)) (gs0 : Array GenState) (m0 : Str → Option Value) (i : Nat) (m' : Str → Option Value) (nx : Led) (gs : Array GenState) : Prop :=
  gs = gs0 ∧ ∃ (on : Obj) (v : Option Value) (pl : Addr) (pv : List Value) (pk : Nat) (t : Tok), nx = (pl, listOf pv.toArray pk) :: (L + 1, on) :: news ∧ on.data = .cell v ∧ @Ne Nat pl (L + 1) ∧ (∀ p ∈ news, p.1 ≠ pl) ∧ IntsAre pv ((List.range i).map fun j => (placeAt ways qs j : Int)) ∧
    m' (Str.ofString "text") = some (.str ⟨(textAt ways qs i).toArray⟩ t) ∧ m' (Str.ofString "places") = some (.ref pl) ∧ ∀ y, y ≠ Str.ofString "text" → y ≠ Str.ofString "places" → m' y = m0 y
theorem seg678 {w : World} {p : Program} {loose : List Str} {mean : ExcName → Option Value} {mg mb : Str → Option Value} {L fa wa sa : Addr} {h₀ : Heap} {s : Shared} {m : Str → Option Value} {news : Led} {Q : Flow → Shared → Prop} {E : Value → Shared → Prop} {rest : List Stmt} {qs : List (Nat × Str)} {ways : List (List Int)} {on : Obj} {v₀ : Option Value}
    (Bw : Below callerA h₀ [] h₀) (X : (Mine.K w.params).In h₀) (T : Top p loose mean mg mb h₀) (F : Fr h₀ L s.heap m) (N : News h₀ L s.heap ((L + 1, on) :: news)) (hon : on.data = .cell v₀) (hoff : ∀ p ∈ news, p.1 ≠ L + 1) (hE : PassesOwn (model prog w) (lawA L fa) (lawEnv L fa) E)
    (hm : m (Str.ofString "ways") = some (.ref wa)) (hms : m (Str.ofString "spelled") = some (.ref sa)) (hW : DatIn news (.ref wa) (.list (waysD ways))) (hS : DatIn news (.ref sa) (.list (qs.map pairD))) (hwl : ways.length = 6) (hql : qs.length = 6) (hws : ∀ x ∈ ways, x.length ≤ 6)
    (k : ∀ (nx : Led) (h' : Heap) (tk : Nat) (m' : Str → Option Value), Fr h₀ L h' m' → News h₀ L h' nx → PlaceJ L news ways qs s.gens m 6 m' nx s.gens → wpAny (model prog w) (lawA L fa) (execs rest (lawEnv L fa)) Q E { s with heap := h', toks := tk }) :
    wpAny (model prog w) (lawA L fa) (execs (lawB6 :: lawB7 :: lawB8 :: rest) (lawEnv L fa)) Q E s := by
  k_with_none
  (k_with "exec Assign cons ListComp" => (k_here; k_dflt (refine LCg.Assign_ListComp_U (F₀ := by k_asm) (by rfl) (by with_unfolding_all rfl) (by with_unfolding_all rfl) (by decide) (by rfl) (by decide) (by rfl) (by rfl) (by rfl) ?_)))
  (k_with "eval ListComp" => (k_here; k_dflt (refine LCg.ListComp_U (F₀ := by k_asm) (by with_unfolding_all rfl) (by decide) (by rfl) (by decide) (by rfl) ?_)))
  (k_with "CompSrc" => (k_here; refine stop ?_))
  (k_with "mine mem" => first | (refine List.mem_cons_of_mem _ ?_; ktr_member) | (refine List.mem_cons_of_mem _ (List.mem_cons_of_mem _ ?_); ktr_member) | (refine List.mem_cons_of_mem _ (List.mem_cons_of_mem _ (List.mem_cons_of_mem _ ?_)); ktr_member))
  (k_with "mine all" => first | assumption | (refine' List.forall_mem_cons.mpr ⟨?a, ?b⟩; (case a => k_ne); (case b => assumption)))
  (k_with "exec For Name Call cons nil" => (k_here; refine stop ?_))
  (k_with "pyIter ref" => (k_here; refine stop ?_))
  (k_with "mine mem" => (repeat (first | with_reducible assumption | refine List.mem_cons_of_mem _ ?_)); done)
  (k_with "subscriptTail Name BinOp ref int" => (k_here; k_dflt (refine' way_item ?k1 ?k2 (by assumption) ?k3 ?k4 ?k5 ?_ (by with_unfolding_all rfl); (case k1 => k_asm); (case k2 => k_mem); (case k3 => omega); (case k4 => omega); (case k5 => omega); k_whole); intro _ _ _ _ _))
  (k_with "subscriptTail Name Name ref int" => (k_here; k_dflt (refine' way_item ?k1 ?k2 (by assumption) ?k3 ?k4 ?k5 ?_ (by with_unfolding_all rfl); (case k1 => k_asm); (case k2 => k_mem); (case k3 => omega); (case k4 => omega); (case k5 => omega); k_whole); intro _ _ _ _ _))
  (k_with "call builtin:len" => (k_here; (with_reducible show wpAny _ _ (call (Value.builtin "len") [Value.ref _]) _ _ _); (refine' len_ints ?k1 ?k2 ?k4 ?k3 ?_; (case k1 => k_asm); (case k2 => k_mem); (case k4 => assumption); (case k3 => exact way_short62 _ _ (by assumption)))))
  (k_with "subscriptTail Name Name ref int" => (k_here; k_dflt (refine' sp_item ?k1 ?k2 (by assumption) ?k3 ?k4 ?k5 ?_ (by with_unfolding_all rfl); (case k1 => k_asm); (case k2 => k_mem); (case k3 => omega); (case k4 => omega); (case k5 => omega); k_whole); intro _ _ _ _ _))
  (k_with "subscriptTail" => (k_here; (with_reducible show wpAny _ _ (subscriptTail _ _ (Value.ref _) (Value.int 0 _)) _ _ _); k_dflt (refine' tup_fst ?k1 ?k2 (by assumption) ?_ (by with_unfolding_all rfl); (case k1 => k_asm); (case k2 => k_mem); k_whole); intro _))
  (k_with "mine len" => ((try simp only [List.length_append, List.length_replicate, List.length_cons, List.length_nil]); omega))
  (k_with "binaryOp Mult str int" => (k_here; k_dflt (refine' mul1 ?k1 ?k2 ?_; (case k1 => exact rfl); (case k2 => omega)); intro _ _))
  (k_with "binaryOp Add str str" => (k_here; k_dflt (refine' add1 ?k1 ?k2 ?k3 ?_; (case k1 => exact rfl); (case k2 => first | exact lit40 | exact lit41 | exact rfl); (case k3 => walk_at "mine len")); intro _ _))
  (k_with "call builtin:len" => (k_here; (with_reducible show wpAny _ _ (call (Value.builtin "len") [Value.str _ _]) _ _ _); k_dflt (refine' len1 ?k3 ?_; (case k3 => walk_at "mine len")); intro _ _))
  have F' := fr_told [(Str.ofString "ways", .ref wa), (Str.ofString "spelled", .ref sa)] (by intro p hp; simp only [List.mem_cons, List.not_mem_nil, or_false] at hp; rcases hp with rfl | rfl <;> assumption) F
  dsimp only [kstB] at F'
  clear F
  unfold lawA lawEnv
  conv in (occs := *) lawB6 => all_goals whnf
  conv in (occs := *) lawB7 => all_goals whnf
  conv in (occs := *) lawB8 => all_goals whnf
  conv in (occs := *) lawSc => all_goals whnf
  cases hW with
  | @list _ wv wk _ hwm hways =>
  cases hS with
  | @list _ sv sk _ hsm hsv =>
  k_steps
  unfold Stop
  rename Fr _ _ _ _ => lF'
  refine For_S lF' ?_ (hE := hE)
  k_steps
  unfold Stop
  rename_i PL hA lt1 hB FB NB hC tkC u1 u2 u3 hr F2 N2 hk2
  refine upS (PlaceJ L news ways qs s.gens m) rfl F2 N2 hr (by decide) (by decide) (by decide) (by decide) ?_ ?_ ?_
  · refine ⟨rfl, on, v₀, PL, [], 0, _, rfl, hon, by omega, fun p hp => Nat.ne_of_lt (ktn_ltOf lt1.2 p hp), .nil, rfl, rfl, fun y h1 h2 => ?_⟩
    show (if y = Str.ofString "places" then _ else if y = Str.ofString "text" then _ else if y = Str.ofString "ways" then some (Value.ref wa) else if y = Str.ofString "spelled" then some (Value.ref sa) else m y) = m y
    rw [if_neg h2, if_neg h1, kst_one hms y, kst_one hm y]
  · rintro i ti m₁ news₁ h₃ tk₃ gs₃ q hi6 ⟨rfl, on', v', pl, pv, pk, tt, rfl, hon', hpn, hpo, hpv, e1, e2, e3⟩ hq F₃ N₃
    have F₄ := fr_told [(Str.ofString "text", .str ⟨(textAt ways qs i).toArray⟩ tt), (Str.ofString "places", .ref pl), (Str.ofString "ways", .ref wa), (Str.ofString "spelled", .ref sa)] (by
      intro p hp; simp only [List.mem_cons, List.not_mem_nil, or_false] at hp
      rcases hp with rfl | rfl | rfl | rfl
      · exact e1
      · exact e2
      · exact (e3 (Str.ofString "ways") (by decide) (by decide)).trans hm
      · exact (e3 (Str.ofString "spelled") (by decide) (by decide)).trans hms) F₃
    dsimp only [kstB] at F₄
    clear F₃ F2 N2 FB NB hr hk2
    obtain ⟨I, oI⟩ := q
    have hIn : @Ne Nat (L + 1) I := hq _ (.tail _ (.head _))
    have hIp : @Ne Nat pl I := hq _ (.head _)
    have hIR : ∀ p ∈ news, p.1 ≠ I := fun p hp => hq p (.tail _ (.tail _ hp))
    clear hq
    rw [Int.zero_add]
    have htl := textAt_len ways qs hws i
    have hpvl : pv.length = i := by rw [hpv.length, List.length_map, List.length_range]
    have hi6' : i < 6 := by omega
    have hA := way_len ways ((i : Int) - 1).toNat hws
    have hB := way_len ways (i : Int).toNat hws
    k_steps
    · rename News _ _ _ _ => N9
      rw [List.push_toArray] at N9
      refine' ⟨_, _, _, _, _, rfl, by k_asm, N9, ?g1, rfl, _, _, pl, _, _, _, rfl, by assumption, hpn, hpo, place_snoc hpv (place_yes (ways := ways) (qs := qs) (i := i) (by assumption)), ?g2, rfl, ?g3⟩
      case g1 =>
        intro p hp
        rcases List.mem_cons.mp hp with rfl | hp
        · exact hIp
        rcases List.mem_cons.mp hp with rfl | hp
        · exact hIn
        · exact hIR p hp
      case g2 => exact textV (text_yes (ways := ways) (qs := qs) (i := i) (by assumption))
      case g3 =>
        intro y h1 h2
        rw [← e3 y h1 h2]
        simp only [if_neg h1, if_neg h2]
        have e4 := (e3 (Str.ofString "ways") (by decide) (by decide)).trans hm
        have e5 := (e3 (Str.ofString "spelled") (by decide) (by decide)).trans hms
        rw [kst_one e5 y, kst_one e4 y]
    · rename News _ _ _ _ => N9
      rw [List.push_toArray] at N9
      refine' ⟨_, _, _, _, _, rfl, by k_asm, N9, ?g1, rfl, _, _, pl, _, _, _, rfl, by assumption, hpn, hpo, place_snoc hpv (place_no (ways := ways) (qs := qs) (i := i) (by assumption)), ?g2, rfl, ?g3⟩
      case g1 =>
        intro p hp
        rcases List.mem_cons.mp hp with rfl | hp
        · exact hIp
        rcases List.mem_cons.mp hp with rfl | hp
        · exact hIn
        · exact hIR p hp
      case g2 => exact textV (text_no (ways := ways) (qs := qs) (i := i) (by assumption))
      case g3 =>
        intro y h1 h2
        rw [← e3 y h1 h2]
        simp only [if_neg h1, if_neg h2]
        have e4 := (e3 (Str.ofString "ways") (by decide) (by decide)).trans hm
        have e5 := (e3 (Str.ofString "spelled") (by decide) (by decide)).trans hms
        rw [kst_one e5 y, kst_one e4 y]
  · rintro m₁ news₁ h₃ tk₃ gs₃ hJ F₃ N₃
    have hg : gs₃ = s.gens := hJ.1
    subst hg
    refine wpAny_execs_nil ?_
    exact k news₁ h₃ tk₃ m₁ F₃ N₃ hJ
end Mine
end
theorem Mine.clean29 : True := by
  k_with_none
  trivial
section
open PySem PySem.W PySem.Spec PySem.Calls PyProof.Rows
set_option maxHeartbeats 2000000
namespace Mine
theorem regM11 : (fun (_ : OpenLaw) (_ : Params → Frag) => True) PySem.Challenge.rw_sn0085_01 Mine.K := by
  k_fill
  exact trivial
theorem seg9 {w : World} {p : Program} {loose : List Str} {mean : ExcName → Option Value} {mg mb : Str → Option Value} {L fa wa : Addr} {h₀ : Heap} {s : Shared} {m : Str → Option Value} {news : Led} {Q : Flow → Shared → Prop} {E : Value → Shared → Prop} {rest : List Stmt} {ways : List (List Int)} {lx : List Nat} {tx : Tok}
    (Bw : Below callerA h₀ [] h₀) (X : (Mine.K w.params).In h₀) (T : Top p loose mean mg mb h₀) (F : Fr h₀ L s.heap m) (N : News h₀ L s.heap news) (hm : m (Str.ofString "ways") = some (.ref wa)) (hmt : m (Str.ofString "text") = some (.str ⟨lx.toArray⟩ tx)) (hW : DatIn news (.ref wa) (.list (waysD ways))) (hwl : ways.length = 6) (hws : ∀ x ∈ ways, x.length ≤ 6) (hlx : lx.length ≤ 100)
    (k : ∀ (t : Tok) (h' : Heap) (tk : Nat) (m' : Str → Option Value), Fr h₀ L h' m' → News h₀ L h' news → m' = (fun y => if y = Str.ofString "text" then some (.str ⟨(lx ++ List.replicate ((ways.getD 5 []).length) 41).toArray⟩ t) else m y) → wpAny (model prog w) (lawA L fa) (execs rest (lawEnv L fa)) Q E { s with heap := h', toks := tk }) :
    wpAny (model prog w) (lawA L fa) (execs (lawB9 :: rest) (lawEnv L fa)) Q E s := by
  k_with_none
  (k_with "exec Assign cons ListComp" => (k_here; k_dflt (refine LCg.Assign_ListComp_U (F₀ := by k_asm) (by rfl) (by with_unfolding_all rfl) (by with_unfolding_all rfl) (by decide) (by rfl) (by decide) (by rfl) (by rfl) (by rfl) ?_)))
  (k_with "eval ListComp" => (k_here; k_dflt (refine LCg.ListComp_U (F₀ := by k_asm) (by with_unfolding_all rfl) (by decide) (by rfl) (by decide) (by rfl) ?_)))
  (k_with "CompSrc" => (k_here; refine stop ?_))
  (k_with "mine mem" => first | (refine List.mem_cons_of_mem _ ?_; ktr_member) | (refine List.mem_cons_of_mem _ (List.mem_cons_of_mem _ ?_); ktr_member) | (refine List.mem_cons_of_mem _ (List.mem_cons_of_mem _ (List.mem_cons_of_mem _ ?_)); ktr_member))
  (k_with "mine mem" => (repeat (first | with_reducible assumption | refine List.mem_cons_of_mem _ ?_)); done)
  (k_with "subscriptTail Name BinOp ref int" => (k_here; k_dflt (refine' way_item ?k1 ?k2 (by assumption) ?k3 ?k4 ?k5 ?_ (by with_unfolding_all rfl); (case k1 => k_asm); (case k2 => k_mem); (case k3 => omega); (case k4 => omega); (case k5 => omega); k_whole); intro _ _ _ _ _))
  (k_with "subscriptTail Name Name ref int" => (k_here; k_dflt (refine' way_item ?k1 ?k2 (by assumption) ?k3 ?k4 ?k5 ?_ (by with_unfolding_all rfl); (case k1 => k_asm); (case k2 => k_mem); (case k3 => omega); (case k4 => omega); (case k5 => omega); k_whole); intro _ _ _ _ _))
  (k_with "call builtin:len" => (k_here; (with_reducible show wpAny _ _ (call (Value.builtin "len") [Value.ref _]) _ _ _); (refine' len_ints ?k1 ?k2 ?k4 ?k3 ?_; (case k1 => k_asm); (case k2 => k_mem); (case k4 => assumption); (case k3 => exact way_short62 _ _ (by assumption)))))
  (k_with "subscriptTail Name Name ref int" => (k_here; k_dflt (refine' sp_item ?k1 ?k2 (by assumption) ?k3 ?k4 ?k5 ?_ (by with_unfolding_all rfl); (case k1 => k_asm); (case k2 => k_mem); (case k3 => omega); (case k4 => omega); (case k5 => omega); k_whole); intro _ _ _ _ _))
  (k_with "subscriptTail" => (k_here; (with_reducible show wpAny _ _ (subscriptTail _ _ (Value.ref _) (Value.int 0 _)) _ _ _); k_dflt (refine' tup_fst ?k1 ?k2 (by assumption) ?_ (by with_unfolding_all rfl); (case k1 => k_asm); (case k2 => k_mem); k_whole); intro _))
  (k_with "mine len" => ((try simp only [List.length_append, List.length_replicate, List.length_cons, List.length_nil]); omega))
  (k_with "binaryOp Mult str int" => (k_here; k_dflt (refine' mul1 ?k1 ?k2 ?_; (case k1 => exact rfl); (case k2 => omega)); intro _ _))
  (k_with "binaryOp Add str str" => (k_here; k_dflt (refine' add1 ?k1 ?k2 ?k3 ?_; (case k1 => exact rfl); (case k2 => first | exact lit40 | exact lit41 | exact rfl); (case k3 => walk_at "mine len")); intro _ _))
  (k_with "call builtin:len" => (k_here; (with_reducible show wpAny _ _ (call (Value.builtin "len") [Value.str _ _]) _ _ _); k_dflt (refine' len1 ?k3 ?_; (case k3 => walk_at "mine len")); intro _ _))
  (k_with "subscriptTail Name Constant ref int" => (k_here; k_dflt (refine' way_item ?k1 ?k2 (by assumption) ?k3 ?k4 ?k5 ?_ (by with_unfolding_all rfl); (case k1 => k_asm); (case k2 => k_mem); (case k3 => omega); (case k4 => omega); (case k5 => omega); k_whole); intro _ _ _ _ _))
  have F' := fr_told [(Str.ofString "ways", .ref wa), (Str.ofString "text", .str ⟨lx.toArray⟩ tx)] (by intro p hp; simp only [List.mem_cons, List.not_mem_nil, or_false] at hp; rcases hp with rfl | rfl <;> assumption) F
  dsimp only [kstB] at F'
  clear F
  unfold lawA lawEnv
  conv in (occs := *) lawB9 => all_goals whnf
  conv in (occs := *) lawSc => all_goals whnf
  cases hW with
  | @list _ wv wk _ hwm hways =>
  have hA := way_len ways (5 : Int).toNat hws
  k_steps
  refine' k _ _ _ _ (by k_asm) (by k_asm) ?g1
  case g1 =>
  funext y
  show (if y = Str.ofString "text" then some (Value.str ⟨(lx ++ List.replicate (((ways.getD (5 : Int).toNat []).length : Int)).toNat 41).toArray⟩ _) else if y = Str.ofString "ways" then some (Value.ref wa) else if y = Str.ofString "text" then some (.str ⟨lx.toArray⟩ tx) else m y) = _
  rw [Int.toNat_natCast, kst_one hmt y, kst_one hm y]
  rfl
noncomputable def flagN (b : Int) (way : List Int) : Nat := (way.map fun x => 2 ^ (b + x).toNat).sum
theorem flag_sum (b : Int) (way : List Int) : (way.map fun x => (2 : Int) ^ (b + x).toNat).sum = (flagN b way : Nat) := by
  unfold flagN
  induction way with
  | nil => rfl
  | cons a l ih =>
    simp only [List.map_cons, List.sum_cons]
    rw [ih]; push_cast; rfl
noncomputable abbrev flagStr (b : Int) (way : List Int) : Str := Txt.join (Str.ofString ", ") (flagWords (flagN b way) 32)
theorem seg11 {w : World} {p : Program} {loose : List Str} {mean : ExcName → Option Value} {mg mb : Str → Option Value} {L fa wa : Addr} {h₀ : Heap} {s : Shared} {m : Str → Option Value} {news : Led} {Q : Flow → Shared → Prop} {E : Value → Shared → Prop} {rest : List Stmt} {ways : List (List Int)} {b : Int} {tb : Tok} {ob : Obj}
    (Bw : Below callerA h₀ [] h₀) (X : (Mine.K w.params).In h₀) (T : Top p loose mean mg mb h₀) (F : Fr h₀ L s.heap m) (N : News h₀ L s.heap ((L + 1 + 1, ob) :: news)) (hob : ob.data = .cell (some (.int b tb)))
    (hm : m (Str.ofString "ways") = some (.ref wa)) (hW : DatIn news (.ref wa) (.list (waysD ways))) (hwl : ways.length = 6) (hws : ∀ x ∈ ways, x.length ≤ 6) (hb : 0 ≤ b ∧ b < 27) (hwr : ∀ x ∈ ways, ∀ y ∈ x, 0 ≤ y ∧ y < 6) (hfl : ∀ x ∈ ways, 0 < flagN b x ∧ flagN b x < 2 ^ 32)
    (k : ∀ (D : Addr) (us : List Value) (n : Nat) (tl : Led) (h' : Heap) (tk : Nat) (m' : Str → Option Value), Fr h₀ L h' m' → News h₀ L h' (tl ++ (L + 1 + 1, ob) :: news) → (∀ q ∈ (L + 1 + 1, ob) :: news, ∀ p ∈ tl, p.1 ≠ q.1) → (D, listOf us.toArray n) ∈ tl → StrsAre us (ways.map (flagStr b)) → m' = (fun y => if y = Str.ofString "flags" then some (.ref D) else m y) → wpAny (model prog w) (lawA L fa) (execs rest (lawEnv L fa)) Q E { s with heap := h', toks := tk }) :
    wpAny (model prog w) (lawA L fa) (execs (lawB11 :: rest) (lawEnv L fa)) Q E s := by
  k_with_none
  (k_with "exec Assign cons ListComp" => (k_here; k_dflt (refine LCg.Assign_ListComp_U (F₀ := by k_asm) (by rfl) (by with_unfolding_all rfl) (by with_unfolding_all rfl) (by decide) (by rfl) (by decide) (by rfl) (by rfl) (by rfl) ?_)))
  (k_with "eval ListComp" => (k_here; k_dflt (refine LCg.ListComp_U (F₀ := by k_asm) (by with_unfolding_all rfl) (by decide) (by rfl) (by decide) (by rfl) ?_)))
  (k_with "CompSrc" => (k_here; refine stop ?_))
  (k_with "mine mem" => first | (refine List.mem_cons_of_mem _ ?_; ktr_member) | (refine List.mem_cons_of_mem _ (List.mem_cons_of_mem _ ?_); ktr_member) | (refine List.mem_cons_of_mem _ (List.mem_cons_of_mem _ (List.mem_cons_of_mem _ ?_)); ktr_member))
  (k_with "mine mem" => (repeat (first | with_reducible assumption | refine List.mem_cons_of_mem _ ?_)); done)
  (k_with "subscriptTail Name BinOp ref int" => (k_here; k_dflt (refine' way_item ?k1 ?k2 (by assumption) ?k3 ?k4 ?k5 ?_ (by with_unfolding_all rfl); (case k1 => k_asm); (case k2 => k_mem); (case k3 => omega); (case k4 => omega); (case k5 => omega); k_whole); intro _ _ _ _ _))
  (k_with "subscriptTail Name Name ref int" => (k_here; k_dflt (refine' way_item ?k1 ?k2 (by assumption) ?k3 ?k4 ?k5 ?_ (by with_unfolding_all rfl); (case k1 => k_asm); (case k2 => k_mem); (case k3 => omega); (case k4 => omega); (case k5 => omega); k_whole); intro _ _ _ _ _))
  (k_with "call builtin:len" => (k_here; (with_reducible show wpAny _ _ (call (Value.builtin "len") [Value.ref _]) _ _ _); (refine' len_ints ?k1 ?k2 ?k4 ?k3 ?_; (case k1 => k_asm); (case k2 => k_mem); (case k4 => assumption); (case k3 => exact way_short62 _ _ (by assumption)))))
  (k_with "subscriptTail Name Name ref int" => (k_here; k_dflt (refine' sp_item ?k1 ?k2 (by assumption) ?k3 ?k4 ?k5 ?_ (by with_unfolding_all rfl); (case k1 => k_asm); (case k2 => k_mem); (case k3 => omega); (case k4 => omega); (case k5 => omega); k_whole); intro _ _ _ _ _))
  (k_with "subscriptTail" => (k_here; (with_reducible show wpAny _ _ (subscriptTail _ _ (Value.ref _) (Value.int 0 _)) _ _ _); k_dflt (refine' tup_fst ?k1 ?k2 (by assumption) ?_ (by with_unfolding_all rfl); (case k1 => k_asm); (case k2 => k_mem); k_whole); intro _))
  (k_with "mine len" => ((try simp only [List.length_append, List.length_replicate, List.length_cons, List.length_nil]); omega))
  (k_with "binaryOp Mult str int" => (k_here; k_dflt (refine' mul1 ?k1 ?k2 ?_; (case k1 => exact rfl); (case k2 => omega)); intro _ _))
  (k_with "binaryOp Add str str" => (k_here; k_dflt (refine' add1 ?k1 ?k2 ?k3 ?_; (case k1 => exact rfl); (case k2 => first | exact lit40 | exact lit41 | exact rfl); (case k3 => walk_at "mine len")); intro _ _))
  (k_with "call builtin:len" => (k_here; (with_reducible show wpAny _ _ (call (Value.builtin "len") [Value.str _ _]) _ _ _); k_dflt (refine' len1 ?k3 ?_; (case k3 => walk_at "mine len")); intro _ _))
  (k_with "subscriptTail Name Constant ref int" => (k_here; k_dflt (refine' way_item ?k1 ?k2 (by assumption) ?k3 ?k4 ?k5 ?_ (by with_unfolding_all rfl); (case k1 => k_asm); (case k2 => k_mem); (case k3 => omega); (case k4 => omega); (case k5 => omega); k_whole); intro _ _ _ _ _))
  (k_with "call ref" => (k_here; (with_reducible show wpAny _ _ (call (Value.ref 95) _) _ _ _); refine stop ?_))
  have F' := fr_told [(Str.ofString "ways", .ref wa)] (by intro p hp; rw [List.mem_singleton.mp hp]; exact hm) F
  dsimp only [kstB] at F'
  clear F
  unfold lawA lawEnv
  conv in (occs := *) lawB11 => all_goals whnf
  conv in (occs := *) lawSc => all_goals whnf
  cases hW with
  | @list _ wv wk _ hwm hways =>
  have hwvl := hways.length
  rw [List.length_map, hwl] at hwvl
  k_steps
  unfold Stop
  refine comp_led (fun i ys tl => tl = [] ∧ StrsAre ys ((ways.take i).map (flagStr b))) rfl (by k_asm) N (.tail _ hwm) (by rw [sizeLine_eq, hwvl]; decide) ⟨rfl, .nil⟩ ?_ ?_
  · rintro i ys tl v I oI C oC D m₂ h tk E' hv ⟨rfl, hJ⟩ hC' hx F₁ N₁ off ne
    have hi : i < ways.length := by
      have := (List.getElem?_eq_some_iff.mp hv).1
      omega
    obtain ⟨v', hv', hD⟩ := hways.get (k := i) (by rw [List.length_map]; exact hi)
    rw [hv] at hv'
    cases hv'
    rw [List.getElem_map] at hD
    have hwi := List.getElem_mem hi
    have hqe : ways[i]? = some ways[i] := List.getElem?_eq_getElem hi
    generalize ways[i] = way at hD hwi hqe
    cases hD with
    | @list la us n _ hum hus =>
      have hui := ints_of_dat hus
      k_steps
      unfold Stop
      refine comp_led (fun j ys2 tl2 => tl2 = [] ∧ IntsAre ys2 ((way.take j).map fun x => (2 : Int) ^ (b + x).toNat)) rfl (by k_asm) N₁ (.tail _ (.tail _ (.tail _ (.tail _ hum)))) (by rw [sizeLine_eq, hui.length]; have := hws way hwi; omega) ⟨rfl, .nil⟩ ?_ ?_
      · rintro j ys2 tl2 v2 I2 oI2 C2 oC2 D2 m₃ h5 tk5 E5 hv2 ⟨rfl, hJ2⟩ hC2 hx2 F₂ N₂ off2 ne2
        obtain ⟨d, td, rfl, hdn⟩ := hui.at j v2 hv2
        have hd6 := hwr way hwi d (List.mem_of_getElem? hdn)
        k_steps
        refine' comp_end (tl9 := []) (tl := []) ?kf N₂ ord_nil off2 ?kj
        case kf => k_asm
        case kj =>
          refine ⟨rfl, ?_⟩
          rw [List.take_add_one, hdn, List.map_append]
          exact hJ2.append (.cons _ _ .nil)
      · rintro g2 ys2 tl2 ⟨rfl, hJ2⟩
        rw [hui.length, List.take_length] at hJ2
        intro D2 h5 tk5 F₂ N₂ o₂
        k_steps
        unfold Stop
        rw [flag_sum]
        refine' callD_use (pretty_spec (flagN b way) _ (hfl way hwi).1 (hfl way hwi).2 _) ?k1 ?k2 ?k3 ?k4 ?k5 ?k6 ?k7 ?k8 ?_
        case k1 => k_asm
        case k2 => k_asm
        case k3 => k_asm
        case k4 => k_asm
        case k5 => k_asm
        case k6 => first | exact rfl | assumption
        case k7 => first | omega | ktr_room
        case k8 => first | omega | ktr_units
        intro r9 tl9 h9 tk9 F9 N9 o9 p9
        obtain ⟨rfl, t9, rfl⟩ := p9
        refine' comp_end (tl9 := []) (tl := []) F9 (news_tail (by simpa only [List.nil_append] using N9)) ord_nil off ?kj
        case kj =>
          refine ⟨rfl, ?_⟩
          rw [List.take_add_one, hqe, List.map_append]
          exact hJ.append' (.cons _ _ .nil)
  · rintro g ys tl ⟨rfl, hJ⟩
    rw [hwvl, ← hwl, List.take_length] at hJ
    intro D h' tk F₁ N₁ o₁
    refine k D ys _ [(D, _)] h' tk _ F₁ N₁ ?_ (.head _) hJ ?_
    · intro q hq p hp
      rw [List.mem_singleton.mp hp]
      exact Ne.symm (off1_mem o₁ q hq)
    · funext y
      show (if _ then _ else (if y = Str.ofString "ways" then some (Value.ref wa) else m y)) = _
      rw [kst_one hm y]
end Mine
end
theorem Mine.clean30 : True := by
  k_with_none
  trivial
section
open PySem PySem.W PySem.Spec PySem.Calls PyProof.Rows
set_option maxHeartbeats 4000000
namespace Mine
theorem regE : (fun (_ : OpenLaw) (_ : Params → Frag) => True) PySem.Challenge.rw_sn0085_01 Mine.K := by
  k_fill
  exact trivial
theorem longest_spec {w p loose mean mg mb} (x : Str) (st : WS) (v : Value) (news : Led) (H : WsIn w.params news v x st) (hc : st.count.length < 100) (hb : 0 ≤ st.b) (hb2 : st.b < 1000) : CallD w p loose mean mg mb 45 2 24 news [v] (fun tl r => tl = [] ∧ ∃ t, r = .int (if st.b > (st.count.length : Int) - 1 then st.b else (st.count.length : Int) - 1) t) := by
  k_with_none
  (k_with "call builtin:len" => (k_here; (with_reducible show wpAny _ _ (call (Value.builtin "len") [Value.ref _]) _ _ _); k_dflt (refine' lenTup_K ?k1 ?k2 ?k3 ?k4 ?_; (case k1 => k_asm); (case k2 => k_mem); (case k3 => assumption); (case k4 => omega); k_whole)))
  intro dp un gd cn cs a ccd cl outer A₀ base h₀ L m s Q E B F X N T hk hd hu hret
  obtain ⟨xa, dx, na, ca, vs, k1, k2, k3, k4, k5, v1, v2, v3, v4, rfl, m1, m2, m3, m4, hvs⟩ := H
  have hlen := hvs.length
  refine wpAny_call ?_
  k_dflt ktr_enter
  conv in (occs := *) fnBody _ => all_goals whnf
  conv in (occs := *) fnScope _ => all_goals whnf
  conv in (occs := *) fnArgs _ => all_goals whnf
  k_steps
  exact hret _ [] _ _ (by k_asm) (by k_asm) ord_nil ⟨rfl, _, rfl⟩
section
theorem indent_spec {w p loose mean mg mb} (x : Str) (st : WS) (v : Value) (ts : Int) (t : Tok) (news : Led) (H : WsIn w.params news v x st) (hts : 1 ≤ ts) (hts2 : ts < 100) (hl : (st.count.length : Int) ≤ ts) (hb : 0 ≤ st.b) (hb2 : st.b < 1000) (hn : 0 ≤ st.nt) (hn2 : st.nt < 100) : CallD w p loose mean mg mb 52 2 24 news [v, .int ts t] (fun tl r => tl = [] ∧ ∃ t, r = .int (st.b + ts * st.nt) t) := by
  k_with_none
  (k_with "call builtin:len" => (k_here; (with_reducible show wpAny _ _ (call (Value.builtin "len") [Value.ref _]) _ _ _); k_dflt (refine' lenTup_K ?k1 ?k2 ?k3 ?k4 ?_; (case k1 => k_asm); (case k2 => k_mem); (case k3 => assumption); (case k4 => omega); k_whole)))
  (k_with "pyIter ref" => (k_here; k_dflt (refine' loopNone ?k1 ?k2 ?k3 ?k4 ?k5 ?k6 ?k7 ?k8 ?k9 ?_; (case k1 => exact rfl); (case k2 => k_asm); (case k3 => k_asm); (case k4 => k_asm); (case k5 => omega); (case k6 => omega); (case k7 => omega); (case k8 => omega); (case k9 => omega); k_whole); intro _ _ _ _; (try dsimp only)))
  intro dp un gd cn cs a ccd cl outer A₀ base h₀ L m s Q E B F X N T hk hd hu hret
  obtain ⟨xa, dx, na, ca, vs, k1, k2, k3, k4, k5, v1, v2, v3, v4, rfl, m1, m2, m3, m4, hvs⟩ := H
  have hlen := hvs.length
  refine wpAny_call ?_
  k_dflt ktr_enter
  conv in (occs := *) fnBody _ => all_goals whnf
  conv in (occs := *) fnScope _ => all_goals whnf
  conv in (occs := *) fnArgs _ => all_goals whnf
  k_steps
  exact hret _ [] _ _ (by k_asm) (by k_asm) ord_nil ⟨rfl, _, by rw [Int.zero_add]⟩
end
theorem ints2 {vs : List Value} {a b : Int} (h : IntsAre vs [a, b]) : ∃ t u, vs = [.int a t, .int b u] := by
  cases h with
  | cons _ t h =>
    cases h with
    | cons _ u h =>
      cases h
      exact ⟨t, u, rfl⟩
section
theorem indent1_spec {w p loose mean mg mb} (x : Str) (st : WS) (v : Value) (t : Tok) (news : Led) (H : WsIn w.params news v x st) (c0 c1 : Int) (hl : st.count = [c0, c1]) (hb : 0 ≤ st.b) (hb2 : st.b < 1000) (hn : 0 ≤ st.nt) (hn2 : st.nt < 100) (hc : 0 ≤ c1) (hc2 : c1 < 100) : CallD w p loose mean mg mb 52 2 24 news [v, .int 1 t] (fun tl r => tl = [] ∧ ∃ t, r = .int (st.b + 1 * (c1 + st.nt)) t) := by
  k_with_none
  (k_with "call builtin:len" => (k_here; (with_reducible show wpAny _ _ (call (Value.builtin "len") [Value.ref _]) _ _ _); k_dflt (refine' lenTup_K ?k1 ?k2 ?k3 ?k4 ?_; (case k1 => k_asm); (case k2 => k_mem); (case k3 => assumption); (case k4 => omega); k_whole)))
  (k_with "pyIter ref" => (k_here; k_dflt (refine' loopNone ?k1 ?k2 ?k3 ?k4 ?k5 ?k6 ?k7 ?k8 ?k9 ?_; (case k1 => exact rfl); (case k2 => k_asm); (case k3 => k_asm); (case k4 => k_asm); (case k5 => omega); (case k6 => omega); (case k7 => omega); (case k8 => omega); (case k9 => omega); k_whole); intro _ _ _ _; (try dsimp only)))
  (k_with "mine dummy1" => skip)
  (k_with "pyIter ref" => (k_here; refine stop ?_))
  intro dp un gd cn cs a ccd cl outer A₀ base h₀ L m s Q E B F X N T hk hd hu hret
  obtain ⟨xa, dx, na, ca, vs, k1, k2, k3, k4, k5, v1, v2, v3, v4, rfl, m1, m2, m3, m4, hvs⟩ := H
  rw [hl] at hvs
  obtain ⟨t0, t1, rfl⟩ := ints2 hvs
  refine wpAny_call ?_
  k_dflt ktr_enter
  conv in (occs := *) fnBody _ => all_goals whnf
  conv in (occs := *) fnScope _ => all_goals whnf
  conv in (occs := *) fnArgs _ => all_goals whnf
  k_steps
  refine loopOnce rfl (by first | k_asm | exact fr_lift (by k_asm) (by assumption)) (by first | k_asm | exact news_lift (by k_asm) (by assumption)) (by assumption) (by decide) (by decide) (by decide) (by decide) rfl ?_
  intro t' h' tk' q' hq' F' N'
  k_steps
  refine item_tupleT (j := 1) (News.isTup (by k_asm) (.tail _ m4)) (by decide) (by decide) rfl rfl ?_
  k_steps
  refine ⟨_, _, _, _, rfl, by k_asm, by k_asm, hq', rfl, ?_⟩
  intro h'' tk'' F'' N''
  k_steps
  exact hret _ [] _ _ (by k_asm) (by k_asm) ord_nil ⟨rfl, _, by rw [Int.zero_add, show Int.fdiv 1 1 = 1 from rfl, Int.one_mul, Int.one_mul, Int.one_mul]⟩
end
end Mine
end
theorem Mine.clean31 : True := by
  k_with_none
  trivial
section
open PySem PySem.W PySem.Spec PySem.Calls PyProof.Rows
set_option maxHeartbeats 2000000
namespace Mine
theorem regM12 : (fun (_ : OpenLaw) (_ : Params → Frag) => True) PySem.Challenge.rw_sn0085_01 Mine.K := by
  k_fill
  exact trivial

theorem len_app (x y : Str) : (x ++ y).length = x.length + y.length := PySem.Str.length_append x y
local macro_rules | `(tactic| walk_at "binaryOp Add str str") => `(tactic| (k_here; k_dflt (refine' SB.add ?k1 ?k2; (case k2 => walk_at "mine fit")); intro t9 k9))
local macro_rules | `(tactic| walk_at "subscriptTail") => `(tactic| (k_here; (with_reducible show wpAny _ _ (subscriptTail _ _ (Value.ref _) (Value.int (-2) _)) _ _ _); k_dflt (refine' item_back ?k1 ?k2 ?k3 ?k4 ?k5 ?_ (by with_unfolding_all rfl); (case k1 => k_asm); (case k2 => k_mem); (case k3 => assumption); (case k4 => omega); (case k5 => omega)); intro t9))
noncomputable def FlagJ (L : Addr) (news : Led) (gs0 : Array GenState) (m0 : Str → Option Value) (ob : Obj) (i : Nat) (m' : Str → Option Value) (nx : Led) (gs : Array GenState) : Prop :=
  gs = gs0 ∧ ∃ (on : Obj) (v : Option Value), nx = (L + 1, on) :: (L + 1 + 1, ob) :: news ∧ on.data = .cell v ∧ ∀ y, y ≠ Str.ofString "above" → m' y = m0 y
theorem seg12 {w : World} {p : Program} {loose : List Str} {mean : ExcName → Option Value} {mg mb : Str → Option Value} {L fa wa ga : Addr} {h₀ : Heap} {s : Shared} {m : Str → Option Value} {news : Led} {Q : Flow → Shared → Prop} {E : Value → Shared → Prop} {rest : List Stmt} {ways : List (List Int)} {b : Int} {tb : Tok} {on ob : Obj} {v₀ : Option Value} {gv : List Value} {gk : Nat}
    (Bw : Below callerA h₀ [] h₀) (X : (Mine.K w.params).In h₀) (T : Top p loose mean mg mb h₀) (F : Fr h₀ L s.heap m) (N : News h₀ L s.heap ((L + 1, on) :: (L + 1 + 1, ob) :: news)) (hon : on.data = .cell v₀) (hob : ob.data = .cell (some (.int b tb))) (hoff : ∀ p ∈ news, p.1 ≠ L + 1) (hE : PassesOwn (model prog w) (lawA L fa) (lawEnv L fa) E)
    (hm : m (Str.ofString "ways") = some (.ref wa)) (hmf : m (Str.ofString "flags") = some (.ref ga)) (hW : DatIn news (.ref wa) (.list (waysD ways))) (hwl : ways.length = 6) (hws : ∀ x ∈ ways, x.length ≤ 6) (hb : 0 ≤ b ∧ b < 27) (hg : (ga, listOf gv.toArray gk) ∈ news) (hgv : StrsAre gv (ways.map (flagStr b)))
    (hlen : ∀ j : Nat, ((ways.map (flagStr b)).getD j (Str.ofString "")).length ≤ 5000) (hpar : ∀ i, i < 6 → 2 ≤ (ways.getD i []).length → 0 ≤ (ways.getD i []).getD ((ways.getD i []).length - 2) 0 ∧ (ways.getD i []).getD ((ways.getD i []).length - 2) 0 < 6)
    (hyes : ∀ i : Nat, i < 6 → 1 < (ways.getD i []).length → (ways.map (flagStr b)).getD (i : Int).toNat (Str.ofString "") = (ways.map (flagStr b)).getD ((ways.getD i []).getD ((ways.getD i []).length - 2) 0).toNat (Str.ofString "") ++ Str.ofString ", " ++ word (b + i))
    (hno : ∀ i : Nat, i < 6 → ¬ 1 < (ways.getD i []).length → (ways.map (flagStr b)).getD (i : Int).toNat (Str.ofString "") = Str.ofString "" ++ word (b + i))
    (k : ∀ (nx : Led) (h' : Heap) (tk : Nat) (m' : Str → Option Value), Fr h₀ L h' m' → News h₀ L h' nx → FlagJ L news s.gens m ob 6 m' nx s.gens → wpAny (model prog w) (lawA L fa) (execs rest (lawEnv L fa)) Q E { s with heap := h', toks := tk }) :
    wpAny (model prog w) (lawA L fa) (execs (lawB12 :: rest) (lawEnv L fa)) Q E s := by
  k_with_none
  (k_with "mine mem" => (repeat (first | with_reducible assumption | refine List.mem_cons_of_mem _ ?_)); done)
  (k_with "subscriptTail Name Name ref int" => (k_here; k_dflt (refine' way_item ?k1 ?k2 (by assumption) ?k3 ?k4 ?k5 ?_ (by with_unfolding_all rfl); (case k1 => k_asm); (case k2 => k_mem); (case k3 => omega); (case k4 => omega); (case k5 => omega); k_whole); walk_at "mine tail0"))
  (k_with "mine all" => first | assumption | (refine' List.forall_mem_cons.mpr ⟨?a, ?b⟩; (case a => k_ne); (case b => assumption)))
  (k_with "exec For Name Call cons nil" => (k_here; refine stop ?_))
  (k_with "pyIter ref" => (k_here; refine stop ?_))
  (k_with "call ref" => (k_here; (with_reducible show wpAny _ _ (call (Value.ref 187) _) _ _ _); refine stop ?_))
  (k_with "compareOp NotEq str str" => (k_here; refine ne_same (by assumption) ?_))
  (k_with "call builtin:len" => (k_here; (with_reducible show wpAny _ _ (call (Value.builtin "len") [Value.ref _]) _ _ _); (refine' len_ints ?k1 ?k2 ?k4 ?k3 ?_; (case k1 => k_asm); (case k2 => k_mem); (case k4 => assumption); (case k3 => exact way_short62 _ _ (by assumption)))))
  (k_with "mine fit" => ((try simp only [len_app]); (try simp only [sizeLine_eq]); omega))
  (k_with "mine flag" => (k_dflt (refine' strs_item ?k1 ?k2 (by assumption) ?k3 ?k4 ?k5 ?_ (by with_unfolding_all rfl); (case k1 => k_asm); (case k2 => k_mem); (case k3 => omega); (case k4 => omega); (case k5 => omega)); intro _))
  (k_with "subscriptTail Name Subscript ref int" => (k_here; walk_at "mine flag"))
  (k_with "subscriptTail Name Name ref int" => (k_here; first | walk_at "mine flag" | (k_dflt (refine' way_item ?k1 ?k2 (by assumption) ?k3 ?k4 ?k5 ?_ (by with_unfolding_all rfl); (case k1 => k_asm); (case k2 => k_mem); (case k3 => omega); (case k4 => omega); (case k5 => omega); k_whole); walk_at "mine tail0")))
  unfold lawA lawEnv
  conv in (occs := *) lawB12 => all_goals whnf
  conv in (occs := *) lawSc => all_goals whnf
  cases hW with
  | @list _ wv wk _ hwm hways =>
  k_steps
  unfold Stop
  rename Fr _ _ _ _ => lF'
  refine For_S lF' ?_ (hE := hE)
  k_steps
  unfold Stop
  rename_i u1 u2 u3 hr F2 N2 hk2
  refine upS (FlagJ L news s.gens m ob) rfl F2 N2 hr (by decide) (by decide) (by decide) (by decide) ⟨rfl, on, v₀, rfl, hon, fun y _ => rfl⟩ ?_ ?_
  · rintro i ti m₁ news₁ h₃ tk₃ gs₃ q hi6 ⟨rfl, on', v', rfl, hon', e3⟩ hq F₃ N₃
    have F₄ := fr_told [(Str.ofString "ways", .ref wa), (Str.ofString "flags", .ref ga)] (by
      intro p hp; simp only [List.mem_cons, List.not_mem_nil, or_false] at hp
      rcases hp with rfl | rfl
      · exact (e3 (Str.ofString "ways") (by decide)).trans hm
      · exact (e3 (Str.ofString "flags") (by decide)).trans hmf) F₃
    dsimp only [kstB] at F₄
    clear F₃ F2 N2 hr hk2
    obtain ⟨I, oI⟩ := q
    have hIn : @Ne Nat (L + 1) I := hq _ (.head _)
    have hIb : @Ne Nat (L + 1 + 1) I := hq _ (.tail _ (.head _))
    have hIR : ∀ p ∈ news, p.1 ≠ I := fun p hp => hq p (.tail _ (.tail _ hp))
    clear hq
    rw [Int.zero_add]
    have hi6' : i < 6 := by omega
    have hA := way_len ways i hws
    have hpi := hpar i hi6'
    have hyi := hyes i hi6'
    have hni := hno i hi6'
    clear hpar hyes hno
    have hgl : (ways.map (flagStr b)).length = 6 := by rw [List.length_map, hwl]
    have hlw : (word (b + (i : Int))).length ≤ 100 := by
      have := wordlen (b + (i : Int)).toNat (by omega)
      rwa [Int.toNat_of_nonneg (by omega)] at this
    generalize hG : ways.map (flagStr b) = G at *
    by_cases hlen1 : 1 < (ways.getD i []).length
    · have hy := hyi hlen1
      have hp := hpi (by omega)
      clear hyi hni hpi
      have hl2 := hlen ((ways.getD i []).getD ((ways.getD i []).length - 2) 0).toNat
      have hcm : (Str.ofString ", ").length = 2 := by decide
      k_steps
      unfold Stop
      refine' callD_use (word_spec (b + (i : Int)) _ ?a1 ?a2 _) ?k1 ?k2 ?k3 ?k4 ?k5 ?k6 ?k7 ?k8 ?_
      case k1 => k_asm
      case k2 => k_asm
      case k3 => k_asm
      case k4 => k_asm
      case k5 => k_asm
      case k6 => first | exact rfl | assumption
      case k7 => first | omega | ktr_room
      case k8 => first | omega | ktr_units
      case a1 => omega
      case a2 => omega
      intro r9 tl9 h9 tk9 F9 N9 o9 p9
      obtain ⟨rfl, t9, rfl⟩ := p9
      simp only [List.nil_append] at N9
      k_steps
      refine' ⟨_, _, _, _, _, rfl, by k_asm, by k_asm, ?g1, rfl, _, _, rfl, by assumption, ?g3⟩
      case g1 =>
        intro p hp
        rcases List.mem_cons.mp hp with rfl | hp
        · exact hIn
        rcases List.mem_cons.mp hp with rfl | hp
        · exact hIb
        · exact hIR p hp
      case g3 =>
        intro y h1
        rw [← e3 y h1]
        simp only [if_neg h1]
        have e4 := (e3 (Str.ofString "ways") (by decide)).trans hm
        have e5 := (e3 (Str.ofString "flags") (by decide)).trans hmf
        rw [kst_one e5 y, kst_one e4 y]
    · have hy := hni hlen1
      have hem : (Str.ofString "").length = 0 := by decide
      clear hyi hni hpi
      k_steps
      unfold Stop
      refine' callD_use (word_spec (b + (i : Int)) _ ?a1 ?a2 _) ?k1 ?k2 ?k3 ?k4 ?k5 ?k6 ?k7 ?k8 ?_
      case k1 => k_asm
      case k2 => k_asm
      case k3 => k_asm
      case k4 => k_asm
      case k5 => k_asm
      case k6 => first | exact rfl | assumption
      case k7 => first | omega | ktr_room
      case k8 => first | omega | ktr_units
      case a1 => omega
      case a2 => omega
      intro r9 tl9 h9 tk9 F9 N9 o9 p9
      obtain ⟨rfl, t9, rfl⟩ := p9
      simp only [List.nil_append] at N9
      k_steps
      refine' ⟨_, _, _, _, _, rfl, by k_asm, by k_asm, ?g1, rfl, _, _, rfl, by assumption, ?g3⟩
      case g1 =>
        intro p hp
        rcases List.mem_cons.mp hp with rfl | hp
        · exact hIn
        rcases List.mem_cons.mp hp with rfl | hp
        · exact hIb
        · exact hIR p hp
      case g3 =>
        intro y h1
        rw [← e3 y h1]
        simp only [if_neg h1]
        have e4 := (e3 (Str.ofString "ways") (by decide)).trans hm
        have e5 := (e3 (Str.ofString "flags") (by decide)).trans hmf
        rw [kst_one e5 y, kst_one e4 y]
  · rintro m₁ news₁ h₃ tk₃ gs₃ hJ F₃ N₃
    have hg : gs₃ = s.gens := hJ.1
    subst hg
    refine wpAny_execs_nil ?_
    exact k news₁ h₃ tk₃ m₁ F₃ N₃ hJ
end Mine
end
theorem Mine.clean32 : True := by
  k_with_none
  trivial
local macro_rules | `(tactic| walk_at "mine none") => `(tactic| fail "none")
local macro_rules | `(tactic| walk_at "mine none") => `(tactic| fail "none")
local macro_rules | `(tactic| walk_at "mine none") => `(tactic| fail "none")
section
open PySem PySem.W PySem.Spec PySem.Calls PyProof.Rows
set_option maxHeartbeats 4000000
namespace Mine
theorem regF : (fun (_ : OpenLaw) (_ : Params → Frag) => True) PySem.Challenge.rw_sn0085_01 Mine.K := by
  k_fill
  exact trivial
theorem WsIn.mono {P : Params} {tl tl' : Led} {r : Value} {x : Str} {st : WS} (H : WsIn P tl r x st) (h : ∀ p ∈ tl, p ∈ tl') : WsIn P tl' r x st := by
  obtain ⟨xa, dx, na, ca, vs, k1, k2, k3, k4, k5, v1, v2, v3, v4, e, m1, m2, m3, m4, hvs⟩ := H
  exact ⟨xa, dx, na, ca, vs, k1, k2, k3, k4, k5, v1, v2, v3, v4, e, h _ m1, h _ m2, h _ m3, h _ m4, hvs⟩
noncomputable def lev (st : WS) (ts : Int) : Int := st.b + ts * st.nt
noncomputable def longest (st : WS) : Int := if st.b > (st.count.length : Int) - 1 then st.b else (st.count.length : Int) - 1
noncomputable def lessN (a b : WS) : Int := (if longest b > longest a then longest b else longest a) + 1
noncomputable def lessW (a b : WS) : Bool := !decide (a.n ≥ b.n) && (if (a.count.length : Int) ≤ 1 ∧ (b.count.length : Int) ≤ 1 then decide (a.nt ≤ b.nt) else (List.range (lessN a b + 1 - 2).toNat).all fun j => decide (lev a (2 + j) < lev b (2 + j)))
noncomputable def Sane (st : WS) : Prop := 0 ≤ st.b ∧ st.b < 90 ∧ 0 ≤ st.nt ∧ st.nt < 90 ∧ (st.count.length : Int) ≤ 2
theorem long_bd {st : WS} (h : Sane st) : -1 ≤ longest st ∧ longest st < 90 := by
  obtain ⟨h1, h2, h3, h4, h5⟩ := h
  unfold longest
  split <;> omega
theorem lessW_big {a b : WS} (h : a.n ≥ b.n) : lessW a b = false := by
  unfold lessW; rw [decide_eq_true h]; rfl
theorem lessW_simple {a b : WS} (h : ¬ a.n ≥ b.n) (h1 : (a.count.length : Int) ≤ 1) (h2 : (b.count.length : Int) ≤ 1) : lessW a b = decide (a.nt ≤ b.nt) := by
  unfold lessW; rw [decide_eq_false h, if_pos ⟨h1, h2⟩]; rfl
theorem lessW_no {a b : WS} (i : Nat) (h1 : ¬ ((a.count.length : Int) ≤ 1 ∧ (b.count.length : Int) ≤ 1)) (h2 : 2 + (i : Int) < lessN a b + 1) (h3 : lev a (2 + i) ≥ lev b (2 + i)) : lessW a b = false := by
  unfold lessW; rw [if_neg h1]
  rw [Bool.and_eq_false_iff]; right
  rw [List.all_eq_false]
  exact ⟨i, List.mem_range.mpr (by omega), by rw [decide_eq_false (by omega)]; decide⟩
theorem lessW_yes {a b : WS} (h : ¬ a.n ≥ b.n) (h1 : ¬ ((a.count.length : Int) ≤ 1 ∧ (b.count.length : Int) ≤ 1)) (h2 : ∀ j : Nat, j < (lessN a b + 1 - 2).toNat → lev a (2 + j) < lev b (2 + j)) : lessW a b = true := by
  unfold lessW; rw [decide_eq_false h, if_neg h1]
  rw [Bool.not_false, Bool.true_and, List.all_eq_true]
  exact fun j hj => decide_eq_true (h2 j (List.mem_range.mp hj))
theorem less_spec {w p loose mean mg mb} (x y : Str) (a b : WS) (v u : Value) (news : Led) (HA : WsIn w.params news v x a) (HB : WsIn w.params news u y b) (sa : Sane a) (sb : Sane b) : CallD w p loose mean mg mb 73 3 48 news [v, u] (fun tl r => tl = [] ∧ r = .bool (lessW a b)) := by
  k_with_none
  (k_with "mine mem" => first | (refine List.mem_cons_of_mem _ ?_; ktr_member) | (refine List.mem_cons_of_mem _ (List.mem_cons_of_mem _ ?_); ktr_member))
  (k_with "mine call" => ( (case k1 => k_asm); (case k2 => k_asm); (case k3 => k_asm); (case k4 => k_asm); (case k5 => k_asm); (case k6 => first | exact rfl | assumption); (case k7 => first | omega | ktr_room); (case k8 => first | omega | ktr_units); k_whole))
  (k_with "mine ws" => first | assumption | exact WsIn.mono (by assumption) (fun _ hp => .tail _ hp) | exact WsIn.mono (by assumption) (fun _ hp => .tail _ (.tail _ hp)))
  (k_with "call ref" => (k_here; (with_reducible show wpAny _ _ (call (Value.ref 45) _) _ _ _); k_dflt (refine' callD_use (longest_spec _ _ _ _ ?a1 ?a2 ?a3 ?a4) ?k1 ?k2 ?k3 ?k4 ?k5 ?k6 ?k7 ?k8 ?_; walk_at "mine call"; (case a1 => walk_at "mine ws"); (case a2 => omega); (case a3 => omega); (case a4 => omega)); walk_at "mine tail2"))
  (k_with "call ref" => (k_here; (with_reducible show wpAny _ _ (call (Value.ref 52) _) _ _ _); k_dflt (refine' callD_use (indent_spec _ _ _ _ _ _ ?a1 ?a2 ?a3 ?a4 ?a5 ?a6 ?a7 ?a8) ?k1 ?k2 ?k3 ?k4 ?k5 ?k6 ?k7 ?k8 ?_; walk_at "mine call"; (case a1 => walk_at "mine ws"); (case a2 => omega); (case a3 => omega); (case a4 => omega); (case a5 => omega); (case a6 => omega); (case a7 => omega); (case a8 => omega)); walk_at "mine tail2"))
  (k_with "pyIter ref" => (k_here; refine stop ?_))
  intro dp un gd cn cs L₀ ccd cl outer A₀ base h₀ L m s Q E B F X N T hk hd hu hret
  have HA' := HA
  have HB' := HB
  obtain ⟨la1, la2⟩ := long_bd sa
  obtain ⟨lb1, lb2⟩ := long_bd sb
  obtain ⟨sa1, sa2, sa3, sa4, sa5⟩ := sa
  obtain ⟨sb1, sb2, sb3, sb4, sb5⟩ := sb
  obtain ⟨xa, dx, na, ca, vs, k1, k2, k3, k4, k5, v1, v2, v3, v4, rfl, m1, m2, m3, m4, hvs⟩ := HA'
  obtain ⟨xb, dy, nb, cb, ys, j1, j2, j3, j4, j5, w1, w2, w3, w4, rfl, n1, n2, n3, n4, hys⟩ := HB'
  refine wpAny_call ?_
  k_dflt ktr_enter
  conv in (occs := *) fnBody _ => all_goals whnf
  conv in (occs := *) fnScope _ => all_goals whnf
  conv in (occs := *) fnArgs _ => all_goals whnf
  k_steps
  · exact hret _ [] _ _ (by k_asm) (by k_asm) ord_nil ⟨rfl, by rw [lessW_big (by assumption)]⟩
  · exact hret _ [] _ _ (by k_asm) (by k_asm) ord_nil ⟨rfl, by rw [lessW_simple (by assumption) (by assumption) (by assumption)]⟩
  all_goals
    refine loopUp (fun i m' nx => nx = news ∧ m' (Str.ofString "self") = some (.ref xa) ∧ m' (Str.ofString "other") = some (.ref xb) ∧ ∀ j : Nat, j < i → lev a (2 + j) < lev b (2 + j)) rfl (by k_asm) (by k_asm) (by assumption) (by decide) (by decide) (by omega) (by omega) ⟨rfl, rfl, rfl, fun j hj => absurd hj (Nat.not_lt_zero _)⟩ ?_ ?_
    · rintro i ti m₁ news₁ h₂ tk₂ q hi ⟨rfl, es, eo, hall⟩ hq F₁ N₁
      have hi' : 2 + (i : Int) < lessN a b + 1 := hi
      have hlb : lessN a b ≤ 91 := by unfold lessN; split <;> omega
      clear hi
      have F₂ := fr_tell [(Str.ofString "self", .ref xa), (Str.ofString "other", .ref xb)] (by intro p hp _; simp only [List.mem_cons, List.not_mem_nil, or_false] at hp; rcases hp with rfl | rfl <;> assumption) F₁
      clear F₁ es eo
      dsimp only [kstB] at F₂
      obtain ⟨I, oI⟩ := q
      k_steps
      · dsimp only [TurnEnd]
        k_steps
        exact hret _ [] _ _ (by k_asm) (news_tl (by k_asm)) ord_nil ⟨rfl, by rw [lessW_no (a := a) (b := b) i (by omega) hi' (by assumption)]⟩
      · refine ⟨_, _, _, _, rfl, by k_asm, by k_asm, hq, rfl, rfl, rfl, fun j hj => ?_⟩
        rcases Nat.lt_or_eq_of_le (Nat.le_of_lt_succ hj) with hj | rfl
        · exact hall j hj
        · exact Int.not_le.mp (by assumption)
    · rintro m₁ news₁ h₂ tk₂ ⟨rfl, es, eo, hall⟩ F₁ N₁
      k_steps
      exact hret _ [] _ _ (by k_asm) (by k_asm) ord_nil ⟨rfl, by rw [lessW_yes (a := a) (b := b) (by assumption) (by omega) hall]⟩
end Mine
end
theorem Mine.clean33 : True := by
  k_with_none
  trivial
section
open PySem PySem.W PySem.Spec PySem.Calls PyProof.Rows
set_option maxHeartbeats 2000000
namespace Mine
theorem regM15 : (fun (_ : OpenLaw) (_ : Params → Frag) => True) PySem.Challenge.rw_sn0085_01 Mine.K := by
  k_fill
  exact trivial
noncomputable def belowN (ways : List (List Int)) (i : Nat) : Nat := (ways.filter fun way => decide ((i : Int) ∈ way)).length
noncomputable def rightN (ways : List (List Int)) (i : Nat) : Int := ((ways.getD i []).length : Int) + 5 - i - belowN ways i
noncomputable def leadL (fr : List Nat) (ways : List (List Int)) (i : Nat) : List Nat := fr ++ List.replicate (rightN ways i).toNat 9 ++ List.replicate ((i : Int) + 5 - rightN ways i).toNat 32
noncomputable abbrev wsOf (l : List Nat) : WS := wsAt ⟨l.toArray⟩ (⟨l.toArray⟩ : Str).cps.size
noncomputable def LeadJ (P : Params) (L : Addr) (news : Led) (fr : List Nat) (ways : List (List Int)) (gs0 : Array GenState) (m0 : Str → Option Value) (i : Nat) (m' : Str → Option Value) (nx : Led) (gs : Array GenState) : Prop :=
  gs = gs0 ∧ ∃ (on ol : Obj) (v : Option Value) (ll : Addr) (lv : List Value) (lk : Nat) (R : Led), nx = (ll, listOf lv.toArray lk) :: (L + 1, on) :: (L + 1 + 1 + 1 + 1 + 1 + 1, ol) :: (R ++ news) ∧ on.data = .cell v ∧ ol.data = .cell (some (.ref ll)) ∧ @LT.lt Nat _ (L + 1 + 1 + 1 + 1 + 1 + 1) ll ∧ (∀ p ∈ R ++ news, p.1 ≠ ll ∧ p.1 ≠ L + 1) ∧ (∀ q ∈ news, ∀ p ∈ R, p.1 ≠ q.1) ∧ lv.length = i ∧
    (∀ j v, lv[j]? = some v → WsIn P R v ⟨(leadL fr ways j).toArray⟩ (wsOf (leadL fr ways j))) ∧
    ∀ y, y ≠ Str.ofString "below" → y ≠ Str.ofString "right" → y ≠ Str.ofString "lead" → m' y = m0 y
theorem seg15 {w : World} {p : Program} {loose : List Str} {mean : ExcName → Option Value} {mg mb : Str → Option Value} {L fa wa ll : Addr} {h₀ : Heap} {s : Shared} {m : Str → Option Value} {news : Led} {Q : Flow → Shared → Prop} {E : Value → Shared → Prop} {rest : List Stmt} {ways : List (List Int)} {fr : List Nat} {tf : Tok} {on ol : Obj} {v₀ : Option Value}
    (Bw : Below callerA h₀ [] h₀) (X : (Mine.K w.params).In h₀) (T : Top p loose mean mg mb h₀) (F : Fr h₀ L s.heap m) (N : News h₀ L s.heap ((ll, listOf (List.toArray []) 0) :: (L + 1, on) :: (L + 1 + 1 + 1 + 1 + 1 + 1, ol) :: news)) (hon : on.data = .cell v₀) (hol : ol.data = .cell (some (.ref ll))) (hll : @LT.lt Nat _ (L + 1 + 1 + 1 + 1 + 1 + 1) ll) (hoff : ∀ p ∈ news, p.1 ≠ ll ∧ p.1 ≠ L + 1) (hE : PassesOwn (model prog w) (lawA L fa) (lawEnv L fa) E)
    (hm : m (Str.ofString "ways") = some (.ref wa)) (hmf : m (Str.ofString "front") = some (.str ⟨fr.toArray⟩ tf)) (hW : DatIn news (.ref wa) (.list (waysD ways))) (hwl : ways.length = 6) (hws : ∀ x ∈ ways, x.length ≤ 6) (hfr : fr.length ≤ 2)
    (hlead : ∀ i : Nat, i < 6 → (leadL fr ways i).length ≤ 20 ∧ (∀ c ∈ leadL fr ways i, c = 32 ∨ c = 9) ∧ Sane (wsOf (leadL fr ways i)) ∧ Sane (wsOf (leadL fr ways i ++ [32])) ∧ lessW (wsOf (leadL fr ways i)) (wsOf (leadL fr ways i ++ [32])) = true)
    (k : ∀ (nx : Led) (h' : Heap) (tk : Nat) (m' : Str → Option Value), Fr h₀ L h' m' → News h₀ L h' nx → LeadJ w.params L news fr ways s.gens m 6 m' nx s.gens → wpAny (model prog w) (lawA L fa) (execs rest (lawEnv L fa)) Q E { s with heap := h', toks := tk }) :
    wpAny (model prog w) (lawA L fa) (execs (lawB15 :: rest) (lawEnv L fa)) Q E s := by
  k_with_none
  (k_with "mine mem" => (repeat (first | with_reducible assumption | exact List.mem_append.mpr (Or.inr (by with_reducible assumption)) | exact List.mem_append.mpr (Or.inl (by with_reducible assumption)) | refine List.mem_cons_of_mem _ ?_)); done)
  (k_with "subscriptTail Name Name ref int" => (k_here; k_dflt (refine' way_item ?k1 ?k2 (by assumption) ?k3 ?k4 ?k5 ?_ (by with_unfolding_all rfl); (case k1 => k_asm); (case k2 => k_mem); (case k3 => omega); (case k4 => omega); (case k5 => omega); k_whole); walk_at "mine tail0"))
  (k_with "call builtin:len" => (k_here; (with_reducible show wpAny _ _ (call (Value.builtin "len") [Value.ref _]) _ _ _); (refine' len_ints ?k1 ?k2 ?k4 ?k3 ?_; (case k1 => k_asm); (case k2 => k_mem); (case k4 => assumption); (case k3 => exact way_short62 _ _ (by assumption)))))
  (k_with "mine len" => ((try simp only [List.length_append, List.length_replicate, List.length_cons, List.length_nil]); omega))
  (k_with "binaryOp Mult str int" => (k_here; k_dflt (refine' mul1 ?k1 ?k2 ?_; (case k1 => first | exact lit9m | exact lit32m | exact rfl); (case k2 => omega)); intro _ _))
  (k_with "binaryOp Add str str" => (k_here; k_dflt (refine' add1 ?k1 ?k2 ?k3 ?_; (case k1 => exact rfl); (case k2 => first | exact lit40 | exact lit41 | exact lit32 | exact rfl); (case k3 => walk_at "mine len")); intro _ _))
  (k_with "call builtin:len" => (k_here; (with_reducible show wpAny _ _ (call (Value.builtin "len") [Value.str _ _]) _ _ _); k_dflt (refine' len1 ?k3 ?_; (case k3 => walk_at "mine len")); intro _ _))
  (k_with "subscriptTail Name Name ref int" => (k_here; k_dflt (refine' push_item ?k1 ?k2 ?k3 ?k4 ?_ (by with_unfolding_all rfl); (case k1 => k_asm); (case k2 => k_mem); (case k3 => assumption); (case k4 => omega); k_whole)))
  (k_with "eval ListComp" => (k_here; k_dflt (refine LCt.ListComp_T (F₀ := by k_asm) (by with_unfolding_all rfl) (by decide) (by rfl) (by decide) (by rfl) ?_)))
  (k_with "compareOp In" => (k_here; k_dflt (refine' ints_in ?k1 ?k2 (by assumption) ?k3 ?_; (case k1 => k_asm); (case k2 => k_mem); (case k3 => ktr_units))))
  (k_with "CompSrcT" => (k_here; refine stop ?_))
  (k_with "mine all" => first | assumption | (refine' List.forall_mem_cons.mpr ⟨?a, ?b⟩; (case a => k_ne); (case b => k_all)))
  (k_with "exec For Name Call cons nil" => (k_here; refine stop ?_))
  (k_with "pyIter ref" => (k_here; refine stop ?_))
  (k_with "call ref" => (k_here; (with_reducible show wpAny _ _ (call (Value.ref 83) _) _ _ _); refine stop ?_))
  (k_with "call ref" => (k_here; (with_reducible show wpAny _ _ (call (Value.ref 73) _) _ _ _); refine stop ?_))
  unfold lawA lawEnv
  conv in (occs := *) lawB15 => all_goals whnf
  conv in (occs := *) lawSc => all_goals whnf
  cases hW with
  | @list _ wv wk _ hwm hways =>
  have hwvl := hways.length
  rw [List.length_map, hwl] at hwvl
  k_steps
  unfold Stop
  rename Fr _ _ _ _ => lF'
  refine For_S lF' ?_ (hE := hE)
  k_steps
  unfold Stop
  rename_i u1 u2 u3 hr F2 N2 hk2
  refine upS (LeadJ w.params L news fr ways s.gens m) rfl F2 N2 hr (by decide) (by decide) (by decide) (by decide) ⟨rfl, on, ol, v₀, ll, [], 0, [], rfl, hon, hol, hll, hoff, (fun _ _ _ h => nomatch h), rfl, (by intro j v h; simp at h), fun y _ _ _ => rfl⟩ ?_ ?_
  · rintro i ti m₁ news₁ h₃ tk₃ gs₃ q hi6 ⟨rfl, on', ol', v', ll', lv, lk, R, rfl, hon', hol', hll', hoff', hRn, hlv, hlw, e3⟩ hq F₃ N₃
    have F₄ := fr_told [(Str.ofString "ways", .ref wa), (Str.ofString "front", .str ⟨fr.toArray⟩ tf)] (by
      intro p hp; simp only [List.mem_cons, List.not_mem_nil, or_false] at hp
      rcases hp with rfl | rfl
      · exact (e3 (Str.ofString "ways") (by decide) (by decide) (by decide)).trans hm
      · exact (e3 (Str.ofString "front") (by decide) (by decide) (by decide)).trans hmf) F₃
    dsimp only [kstB] at F₄
    clear F₃ F2 N2 hr hk2
    obtain ⟨I, oI⟩ := q
    have hIl : @Ne Nat ll' I := hq _ (.head _)
    have hIn : @Ne Nat (L + 1) I := hq _ (.tail _ (.head _))
    have hIo : @Ne Nat (L + 1 + 1 + 1 + 1 + 1 + 1) I := hq _ (.tail _ (.tail _ (.head _)))
    have hIR : ∀ p ∈ R ++ news, p.1 ≠ I := fun p hp => hq p (.tail _ (.tail _ (.tail _ hp)))
    clear hq
    rw [Int.zero_add]
    have hi6' : i < 6 := by omega
    have hA := way_len ways i hws
    have hwm' : (wa, listOf wv.toArray wk) ∈ R ++ news := List.mem_append.mpr (.inr hwm)
    have hoff1 : ∀ p ∈ R ++ news, p.1 ≠ L + 1 := fun p hp => (hoff' p hp).2
    have hoff2 : ∀ p ∈ R ++ news, p.1 ≠ ll' := fun p hp => (hoff' p hp).1
    k_steps
    unfold Stop
    rename News _ _ _ _ => N5
    rename Obj => on5
    refine compT_led (fun j ys => ys.length = ((ways.take j).filter fun way => decide ((i : Int) ∈ way)).length) rfl (by k_asm) N5 (by k_mem) (by rw [sizeLine_eq, hwvl]; decide) rfl ?_ ?_
    · rintro j ys v I5 oI5 C oC D m₂ h5 tk5 E' hv hJ hC' hx F₅ N₅ off5 ne5
      have hj : j < ways.length := by
        have := (List.getElem?_eq_some_iff.mp hv).1
        omega
      obtain ⟨v2, hv2, hD⟩ := hways.get (k := j) (by rw [List.length_map]; exact hj)
      rw [hv] at hv2
      cases hv2
      rw [List.getElem_map] at hD
      have hqe : ways[j]? = some ways[j] := List.getElem?_eq_getElem hj
      generalize ways[j] = way at hD hqe
      cases hD with
      | @list la us n _ hum hus =>
        have hui := ints_of_dat hus
        have hum' : (la, listOf us.toArray n) ∈ R ++ news := List.mem_append.mpr (.inr hum)
        by_cases hin : (i : Int) ∈ way
        · k_steps
          · refine' comp_end (tl9 := []) (tl := []) ?kf N₅ ord_nil off5 ?kj
            case kf => k_asm
            case kj => exact ⟨rfl, by rw [List.take_add_one, hqe, List.filter_append, List.length_append, List.length_append, hJ]; simp [hin]⟩
          · exact absurd hin (by assumption)
        · k_steps
          refine' comp_end (tl9 := []) (tl := []) ?kf N₅ ord_nil off5 ?kj
          case kf => k_asm
          case kj => exact ⟨rfl, by rw [List.take_add_one, hqe, List.filter_append, List.length_append, hJ]; simp [hin]⟩
    · rintro g ys hJ
      rw [hwvl, ← hwl, List.take_length] at hJ
      have hbe : ys.length = belowN ways i := hJ
      have hbl : belowN ways i ≤ 6 := by rw [← hwl]; exact List.length_filter_le _ _
      intro D h5 tk5 F₅ N₅ o₅
      have hyl : ys.length ≤ 6 := by omega
      k_steps
      refine PyProof.Rows.len_list (items := ys.toArray) (News.isList N₅ (.head _)) (by rw [List.size_toArray]; omega) ?_
      rw [List.size_toArray, hbe]
      have hoD : ∀ p ∈ R ++ news, p.1 ≠ D := fun p hp => off1_mem o₅ p (by k_mem)
      simp only [LCg.Off1] at o₅
      obtain ⟨oD1, oD2, oD3, oD4, oD5⟩ := o₅
      k_steps
      unfold Stop
      obtain ⟨hl1, hl2, hl3, hl4, hl5⟩ := hlead i hi6'
      refine' callD_use (init_spec ⟨(leadL fr ways i).toArray⟩ _ (by simpa using hl2) ?a2 _) ?k1 ?k2 ?k3 ?k4 ?k5 ?k6 ?k7 ?k8 ?_
      case k1 => k_asm
      case k2 => k_asm
      case k3 => k_asm
      case k4 => k_asm
      case k5 => k_asm
      case k6 => first | exact rfl | assumption
      case k7 => first | omega | ktr_room
      case k8 => first | omega | ktr_units
      case a2 => (show (leadL fr ways i).toArray.size ≤ 40; rw [List.size_toArray]; omega)
      intro r9 tl9 h9 tk9 F9 N9 o9 HA
      obtain ⟨xa, dx, na, ca, vs9, k1, k2, k3, k4, k5, v1, v2, v3, v4, rfl, m1, m2, m3, m4, hvs⟩ := id HA
      have N10 : News h₀ L h9 ((I, oI) :: (ll', listOf lv.toArray lk) :: (L + 1, on5) :: (L + 1 + 1 + 1 + 1 + 1 + 1, ol') :: ((tl9 ++ R) ++ news)) := fun p hp => N9 p (by
        simp only [List.mem_cons, List.mem_append] at hp ⊢
        rcases hp with hp | hp | hp | hp | (hp | hp) | hp
        all_goals simp only [hp, true_or, or_true])
      have hoA : ∀ p ∈ (tl9 ++ R) ++ news, p.1 ≠ L + 1 ∧ p.1 ≠ ll' ∧ p.1 ≠ I := fun p hp => by
        rw [List.append_assoc] at hp
        rcases List.mem_append.mp hp with hp | hp
        · exact ⟨Nat.ne_of_gt (o9 (L + 1, on5) (by simp) p hp), Nat.ne_of_gt (o9 (ll', listOf lv.toArray lk) (by simp) p hp), Nat.ne_of_gt (o9 (I, oI) (by simp) p hp)⟩
        · exact ⟨(hoff' p hp).2, (hoff' p hp).1, hIR p hp⟩
      have hRn9 : ∀ q ∈ news, ∀ p ∈ tl9 ++ R, p.1 ≠ q.1 := fun q hq p hp => by
        rcases List.mem_append.mp hp with hp | hp
        · exact Nat.ne_of_gt (o9 q (by simp [hq]) p hp)
        · exact hRn q hq p hp
      have hoA1 : ∀ p ∈ (tl9 ++ R) ++ news, p.1 ≠ ll' := fun p hp => (hoA p hp).2.1
      have HA2 : WsIn w.params ((tl9 ++ R) ++ news) (.ref xa) ⟨(leadL fr ways i).toArray⟩ (wsOf (leadL fr ways i)) := HA.mono fun p hp => List.mem_append.mpr (.inl (List.mem_append.mpr (.inl hp)))
      have HA3 : WsIn w.params (tl9 ++ R) (.ref xa) ⟨(leadL fr ways i).toArray⟩ (wsOf (leadL fr ways i)) := HA.mono fun p hp => List.mem_append.mpr (.inl hp)
      have mx : (xa, instObj 83 dx) ∈ (tl9 ++ R) ++ news := List.mem_append.mpr (.inl (List.mem_append.mpr (.inl m1)))
      have md := List.mem_append.mpr (Or.inl (b := _ ∈ news) (List.mem_append.mpr (Or.inl (b := _ ∈ R) m2)))
      clear N9 o9 HA m1 m2 m3 m4 hoff1 hoff2
      k_steps
      unfold Stop
      refine' callD_use (init_spec ⟨(leadL fr ways i ++ [32]).toArray⟩ _ ?a1 ?a2 _) ?k1 ?k2 ?k3 ?k4 ?k5 ?k6 ?k7 ?k8 ?_
      case k1 => k_asm
      case k2 => k_asm
      case k3 => k_asm
      case k4 => k_asm
      case k5 => k_asm
      case k6 => first | exact rfl | assumption
      case k7 => first | omega | ktr_room
      case k8 => first | omega | ktr_units
      case a1 =>
        intro c hc
        have hc' : c ∈ leadL fr ways i ++ [32] := by simpa using hc
        rcases List.mem_append.mp hc' with hc' | hc'
        · exact hl2 c hc'
        · exact .inl (List.mem_singleton.mp hc')
      case a2 => (show (leadL fr ways i ++ [32]).toArray.size ≤ 40; rw [List.size_toArray, List.length_append, List.length_singleton]; omega)
      intro r8 tl8 h8 tk8 F8 N8 o8 HB
      k_steps
      unfold Stop
      refine' callD_use (less_spec _ _ (wsOf (leadL fr ways i)) (wsOf (leadL fr ways i ++ [32])) _ _ _ ?a1 ?a2 hl3 hl4) ?k1 ?k2 ?k3 ?k4 ?k5 ?k6 ?k7 ?k8 ?_
      case k1 => k_asm
      case k2 => k_asm
      case k3 => k_asm
      case k4 => k_asm
      case k5 => k_asm
      case k6 => first | exact rfl | assumption
      case k7 => first | omega | ktr_room
      case k8 => first | omega | ktr_units
      case a1 => exact HA2.mono fun p hp => List.mem_append.mpr (.inr (.tail _ (.tail _ (.tail _ (.tail _ hp)))))
      case a2 => exact HB.mono fun p hp => List.mem_append.mpr (.inl hp)
      intro r7 tl7 h7 tk7 F7 N7 o7 p7
      obtain ⟨rfl, rfl⟩ := p7
      rw [hl5]
      have N6 : News h₀ L h7 ((I, oI) :: (ll', listOf (lv.toArray.push (.ref xa)) (lk + 1)) :: (L + 1, on5) :: (L + 1 + 1 + 1 + 1 + 1 + 1, ol') :: ((tl9 ++ R) ++ news)) := fun p hp => N7 p (List.mem_append.mpr (.inr (List.mem_append.mpr (.inr hp))))
      clear N7 N8
      k_steps
      rw [List.push_toArray] at N6
      refine' ⟨_, _, _, _, _, rfl, by k_asm, N6, ?g1, rfl, on5, ol', _, ll', _, _, tl9 ++ R, rfl, by assumption, hol', hll', fun p hp => ⟨(hoA p hp).2.1, (hoA p hp).1⟩, hRn9, by rw [List.length_append, hlv]; rfl, ?g2, ?g3⟩
      case g1 =>
        intro p hp
        rcases List.mem_cons.mp hp with rfl | hp
        · exact hIl
        rcases List.mem_cons.mp hp with rfl | hp
        · exact hIn
        rcases List.mem_cons.mp hp with rfl | hp
        · exact hIo
        · exact (hoA p hp).2.2
      case g2 =>
        intro j v hj
        rcases Nat.lt_or_ge j i with hlt | hge
        · rw [List.getElem?_append_left (by omega)] at hj
          exact (hlw j v hj).mono fun p hp => List.mem_append.mpr (.inr hp)
        · have hji : j = i := by
            have := (List.getElem?_eq_some_iff.mp hj).1
            rw [List.length_append, hlv, List.length_singleton] at this
            omega
          subst hji
          rw [List.getElem?_append_right (by omega), hlv, Nat.sub_self] at hj
          cases hj
          exact HA3
      case g3 =>
        intro y h1 h2 h3
        rw [← e3 y h1 h2 h3]
        simp only [if_neg h1, if_neg h2, if_neg h3]
        have e4 := (e3 (Str.ofString "ways") (by decide) (by decide) (by decide)).trans hm
        have e5 := (e3 (Str.ofString "front") (by decide) (by decide) (by decide)).trans hmf
        rw [kst_one e5 y, kst_one e4 y]
  · rintro m₁ news₁ h₃ tk₃ gs₃ hJ F₃ N₃
    have hg : gs₃ = s.gens := hJ.1
    subst hg
    refine wpAny_execs_nil ?_
    exact k news₁ h₃ tk₃ m₁ F₃ N₃ hJ
end Mine
end
theorem Mine.clean34 : True := by
  k_with_none
  trivial
section
open PySem PySem.W PySem.Spec PySem.Calls PyProof.Rows
set_option maxHeartbeats 800000
namespace Mine
theorem regM16 : (fun (_ : OpenLaw) (_ : Params → Frag) => True) PySem.Challenge.rw_sn0085_01 Mine.K := by
  k_fill
  exact trivial

theorem mem16a {α : Type} {x a b c d e f g h0 : α} {t n : List α} (h : x ∈ n) : x ∈ a :: b :: c :: ([] ++ (d :: e :: f :: g :: (t ++ (h0 :: n)))) := by simp [h]
theorem mem16b {α : Type} {a b c d e f g : α} {t : List α} : g ∈ a :: b :: c :: ([] ++ (d :: e :: f :: g :: t)) := by simp
theorem lead_item {prog : Program} {w : World} {A : Around} {E : Value → Shared → Prop} {s : Shared} {h₀ : Heap} {L l : Addr} {news R : Led} {P : Params} {fr : List Nat} {ways : List (List Int)} {value slice : PySem.Expr} {lv : List Value} {n : Nat} {x : Nat} {u : Tok} {Q : Value → Shared → Prop} (N : News h₀ L s.heap news) (hm : (l, listOf lv.toArray n) ∈ news) (hlw : ∀ (j : Nat) (v : Value), lv[j]? = some v → WsIn P R v ⟨(leadL fr ways j).toArray⟩ (wsOf (leadL fr ways j))) (hlv : lv.length = 6) (hx : x < 6)
    (h : ∀ v, WsIn P R v ⟨(leadL fr ways x).toArray⟩ (wsOf (leadL fr ways x)) → Q v s)
    (hs : subscripted slice false (.ref l) (.int (x : Int) u) = operate [.ref l, .int (x : Int) u] (getItem (.ref l) (.int (x : Int) u)) := by with_unfolding_all rfl) :
    wpAny (model prog w) A (subscriptTail value slice (.ref l) (.int (x : Int) u)) Q E s := by
  have he : lv[x]? = some lv[x] := List.getElem?_eq_getElem (by omega)
  exact any_item N hm (Int.natCast_nonneg _) (by rw [Int.toNat_natCast]; exact he) (by omega) (h _ (hlw x _ he)) hs
theorem cell_end {h₀ h' : Heap} {L : Addr} {m : Str → Option Value} {s₁ : Shared} {q1 q2 q3 q4 d : Addr × Obj} {tl news : Led} {tk : Nat} {J : Value → Led → Prop} {y : Value} (F : Fr h₀ L h' m) (N : News h₀ L h' (d :: ([] ++ (q1 :: q2 :: q3 :: q4 :: (tl ++ news))))) (o9 : ∀ q ∈ [] ++ (q1 :: q2 :: q3 :: q4 :: (tl ++ news)), q.1 ≠ d.1)
    (off : ∀ p ∈ tl ++ news, p.1 ≠ q1.1 ∧ p.1 ≠ q2.1 ∧ p.1 ≠ q3.1 ∧ p.1 ≠ q4.1) (hJ : J y (d :: tl)) : CellT h₀ L m s₁ q1 q2 q3 q4 news J y { s₁ with heap := h', toks := tk } := by
  refine ⟨h', tk, d :: tl, rfl, F, fun p hp => N p ?_, fun p hp => ?_, hJ⟩
  · rw [List.nil_append]
    rcases List.mem_cons.mp hp with rfl | hp
    · exact .tail _ (.head _)
    rcases List.mem_cons.mp hp with rfl | hp
    · exact .tail _ (.tail _ (.head _))
    rcases List.mem_cons.mp hp with rfl | hp
    · exact .tail _ (.tail _ (.tail _ (.head _)))
    rcases List.mem_cons.mp hp with rfl | hp
    · exact .tail _ (.tail _ (.tail _ (.tail _ (.head _))))
    rcases List.mem_cons.mp hp with rfl | hp
    · exact .head _
    · exact .tail _ (.tail _ (.tail _ (.tail _ (.tail _ hp))))
  · rcases List.mem_cons.mp hp with rfl | hp
    · exact ⟨Ne.symm (o9 _ (.head _)), Ne.symm (o9 _ (.tail _ (.head _))), Ne.symm (o9 _ (.tail _ (.tail _ (.head _)))), Ne.symm (o9 _ (.tail _ (.tail _ (.tail _ (.head _)))))⟩
    · exact off p (List.mem_append.mpr (.inl hp))
noncomputable def ltW (fr : List Nat) (ways : List (List Int)) (i j : Nat) : Bool := lessW (wsOf (leadL fr ways i)) (wsOf (leadL fr ways j))
noncomputable abbrev lessD (fr : List Nat) (ways : List (List Int)) : Dat := .list ((List.range 6).map fun i => .list ((List.range 6).map fun j => .bool (ltW fr ways i j)))
theorem seg16 {w : World} {p : Program} {loose : List Str} {mean : ExcName → Option Value} {mg mb : Str → Option Value} {L fa ll : Addr} {h₀ : Heap} {s : Shared} {m : Str → Option Value} {news : Led} {Q : Flow → Shared → Prop} {E : Value → Shared → Prop} {rest : List Stmt} {ways : List (List Int)} {fr : List Nat} {ol o5 : Obj} {v₀ : Option Value} {lv : List Value} {lk : Nat}
    (Bw : Below callerA h₀ [] h₀) (X : (Mine.K w.params).In h₀) (T : Top p loose mean mg mb h₀) (F : Fr h₀ L s.heap m) (N : News h₀ L s.heap ((L + 1 + 1 + 1 + 1 + 1, o5) :: news)) (ho5 : o5.data = .cell v₀) (hoff : ∀ p ∈ news, p.1 ≠ L + 1 + 1 + 1 + 1 + 1) (hlm : (L + 1 + 1 + 1 + 1 + 1 + 1, ol) ∈ news) (hol : ol.data = .cell (some (.ref ll))) (hll : (ll, listOf lv.toArray lk) ∈ news) (hlv : lv.length = 6)
    (hlw : ∀ (j : Nat) (v : Value), lv[j]? = some v → WsIn w.params news v ⟨(leadL fr ways j).toArray⟩ (wsOf (leadL fr ways j))) (hsane : ∀ i : Nat, i < 6 → Sane (wsOf (leadL fr ways i)))
    (k : ∀ (D : Addr) (o5' : Obj) (tl : Led) (h' : Heap) (tk : Nat) (m' : Str → Option Value), Fr h₀ L h' m' → News h₀ L h' ((L + 1 + 1 + 1 + 1 + 1, o5') :: (tl ++ news)) → o5'.data = .cell (some (.ref D)) → (∀ q ∈ (L + 1 + 1 + 1 + 1 + 1, o5) :: news, ∀ p ∈ tl, p.1 ≠ q.1) → DatIn tl (.ref D) (lessD fr ways) → m' = m → wpAny (model prog w) (lawA L fa) (execs rest (lawEnv L fa)) Q E { s with heap := h', toks := tk }) :
    wpAny (model prog w) (lawA L fa) (execs (lawB16 :: rest) (lawEnv L fa)) Q E s := by
  k_with_none
  (k_with "mine mem" => (repeat (first | with_reducible_and_instances assumption | refine List.mem_cons_of_mem _ ?_ | (refine List.mem_append.mpr (Or.inl ?_); with_reducible_and_instances assumption) | refine List.mem_append.mpr (Or.inr ?_)); done))
  (k_with "mine mem" => exact mem16a (by with_reducible_and_instances assumption))
  (k_with "mine mem" => exact mem16b)
  (k_with "eval Name" => (k_here; (with_reducible show wpAny _ _ (eval (Expr.Name (Str.ofString "leads") _) (compEnvC _ _ _ _)) _ _ _); k_dflt (refine' lcf_cell ?N ?c ?m ?d ?_ ?a ?b; (case a => exact rfl); (case N => k_asm); (case c => exact rfl); (case m => exact mem16a (by with_reducible_and_instances assumption)); (case d => with_reducible assumption); (case b => kernel_rfl!))))
  (k_with "eval Name" => (k_here; (with_reducible show wpAny _ _ (eval (Expr.Name (Str.ofString "one") _) (compEnvC _ _ _ _)) _ _ _); k_dflt (refine' lcf_cell ?N ?c ?m ?d ?_ ?a ?b; (case a => exact rfl); (case N => k_asm); (case c => exact rfl); (case m => exact mem16b); (case d => with_reducible assumption); (case b => kernel_rfl!))))
  (k_with "eval Name" => (k_here; (with_reducible show wpAny _ _ (eval (Expr.Name (Str.ofString "other") _) (compEnvC _ _ _ _)) _ _ _); k_dflt (refine' LCgL.ld_own ?a ?b ?c ?d ?_; (case a => k_asm); (case b => exact List.mem_cons_of_mem _ (List.mem_cons_self (a := _) (l := _))); (case c => assumption); (case d => assumption))))
  (k_with "eval ListComp" => (k_here; k_dflt (refine comp_cell (by k_asm) (by with_unfolding_all rfl) (by rfl) (by decide) (by intro _; rfl) (by intro _; rfl) (by intro _ C; rfl) ?_)))
  (k_with "eval ListComp" => (k_here; k_dflt (refine LCg.ListComp_U (F₀ := by k_asm) (by with_unfolding_all rfl) (by decide) (by rfl) (by decide) (by rfl) ?_)))
  (k_with "CompSrc" => (k_here; refine stop ?_))
  (k_with "CellSrc" => (k_here; refine stop ?_))
  (k_with "mine all" => first | assumption | (refine' List.forall_mem_cons.mpr ⟨?a, ?b⟩; (case a => k_ne); (case b => k_all)))
  (k_with "call ref" => (k_here; (with_reducible show wpAny _ _ (call (Value.ref 73) _) _ _ _); refine stop ?_))
  (k_with "subscriptTail Name Name ref int" => (k_here; k_dflt (refine' lead_item ?k1 ?k2 (by assumption) ?k3 ?k4 ?_ (by with_unfolding_all rfl); (case k1 => k_asm); (case k2 => exact mem16a (by with_reducible_and_instances assumption)); (case k3 => assumption); (case k4 => omega); k_whole); walk_at "mine tail1"))
  unfold lawA lawEnv
  conv in (occs := *) lawB16 => all_goals whnf
  conv in (occs := *) lawSc => all_goals whnf
  k_steps
  unfold Stop
  rename_i u1 u2 u3 hr F2 N2 hk2
  refine ⟨_, 6, _, _, _, _, fun i ys tl => DatAll tl ys ((List.range i).map fun i => Dat.list ((List.range 6).map fun j => Dat.bool (ltW fr ways i j))) ∧ ∀ p ∈ tl, ∀ q ∈ (L + 1 + 1 + 1 + 1 + 1, o5) :: news, p.1 ≠ q.1, rfl, rfl, F2, N2, hr, by decide, ⟨.nil, fun p hp => (by cases hp)⟩, ?_, ?_⟩
  · rintro g i ys tl ti I oI C oC D c oc h tk E' hi ⟨hJ, hJo⟩ hoc F₁ N₁ off ne
    have hi6 : i < 6 := hi
    clear hr F2 N2 hk2
    k_steps
    unfold Stop
    rename_i u4 u5 u6 hr F3 N3 hk3
    refine comp_up (fun j ys2 tl2 => tl2 = [] ∧ DatAll [] ys2 ((List.range j).map fun j => Dat.bool (ltW fr ways i j))) rfl F3 N3 hr (by decide) ⟨rfl, .nil⟩ ?_ ?_
    · rintro j ys2 tl2 t2 I2 oI2 C2 oC2 D2 m₃ h5 tk5 E5 hj ⟨rfl, hJ2⟩ hC2 hx2 F₂ N₂ off2 ne2
      have hj6 : j < 6 := hj
      clear hr F3 N3 hk3
      k_steps
      unfold Stop
      refine' callD_use (less_spec _ _ (wsOf (leadL fr ways i)) (wsOf (leadL fr ways j)) _ _ _ ?a1 ?a2 (hsane i hi6) (hsane j hj6)) ?k1 ?k2 ?k3 ?k4 ?k5 ?k6 ?k7 ?k8 ?_
      case k1 => k_asm
      case k2 => k_asm
      case k3 => k_asm
      case k4 => k_asm
      case k5 => k_asm
      case k6 => first | exact rfl | assumption
      case k7 => first | omega | ktr_room
      case k8 => first | omega | ktr_units
      case a1 => exact WsIn.mono (by assumption) fun p hp => mem16a hp
      case a2 => exact WsIn.mono (by assumption) fun p hp => mem16a hp
      intro r7 tl7 h7 tk7 F7 N7 o7 p7
      obtain ⟨rfl, rfl⟩ := p7
      refine comp_end (tl9 := []) (tl := []) F7 N7 ord_nil off2 ⟨rfl, ?_⟩
      rw [List.range_succ, List.map_append]
      exact DatAll.append hJ2 (.one (.bool _))
    · rintro g2 ys2 tl2 ⟨rfl, hJ2⟩
      intro D2 h5 tk5 F₂ N₂ o₂
      refine cell_end F₂ N₂ (off1_mem o₂) off ⟨?_, ?_⟩
      · show DatAll _ (ys ++ [_]) ((List.range (i + 1)).map _)
        rw [List.range_succ (n := i), List.map_append]
        exact DatAll.append (hJ.mono fun p hp => .tail _ hp) (.one (.list (.head _) (hJ2.mono fun p hp => by cases hp)))
      · intro p hp
        rcases List.mem_cons.mp hp with rfl | hp
        · exact fun q hq => Ne.symm (off1_mem o₂ q (.tail _ (.tail _ (.tail _ (.tail _ (List.mem_append.mpr (.inr hq)))))))
        · exact hJo p hp
  · rintro D h tk ys tl ⟨hJ, hJo⟩ F₁ N₁ o₁
    clear hr F2 N2 hk2
    have hD5 : @Ne Nat D (L + 1 + 1 + 1 + 1 + 1) := Ne.symm (o₁ (L + 1 + 1 + 1 + 1 + 1, o5) (List.mem_append.mpr (.inr (.head _))))
    have hJ2 : ∀ q ∈ (L + 1 + 1 + 1 + 1 + 1, o5) :: news, ∀ p ∈ (D, LCg.lst ys) :: tl, p.1 ≠ q.1 := fun q hq p hp => by
      rcases List.mem_cons.mp hp with rfl | hp
      · exact Ne.symm (o₁ q (List.mem_append.mpr (.inr hq)))
      · exact hJo p hp q hq
    have N₂ : News h₀ L h ((L + 1 + 1 + 1 + 1 + 1, o5) :: (((D, LCg.lst ys) :: tl) ++ news)) := fun p hp => by
      rcases List.mem_cons.mp hp with rfl | hp
      · exact N₁ _ (.tail _ (List.mem_append.mpr (.inr (.head _))))
      rcases List.mem_cons.mp hp with rfl | hp
      · exact N₁ _ (.head _)
      rcases List.mem_append.mp hp with hp | hp
      · exact N₁ _ (.tail _ (List.mem_append.mpr (.inl hp)))
      · exact N₁ _ (.tail _ (List.mem_append.mpr (.inr (.tail _ hp))))
    have hoff₂ : ∀ p ∈ ((D, LCg.lst ys) :: tl) ++ news, p.1 ≠ L + 1 + 1 + 1 + 1 + 1 := fun p hp => by
      rcases List.mem_cons.mp hp with rfl | hp
      · exact hD5
      rcases List.mem_append.mp hp with hp | hp
      · exact hJo p hp _ (.head _)
      · exact hoff p hp
    clear N₁ o₁
    k_steps
    refine k D _ ((D, LCg.lst ys) :: tl) _ _ _ (by k_asm) (by k_asm) (by assumption) hJ2 (.list (.head _) (hJ.mono fun p hp => .tail _ hp)) rfl
end Mine
end
theorem Mine.clean35 : True := by
  k_with_none
  trivial
section
open PySem PySem.W PySem.Spec PySem.Calls PyProof.Rows
set_option maxHeartbeats 800000
namespace Mine
theorem regM18 : (fun (_ : OpenLaw) (_ : Params → Frag) => True) PySem.Challenge.rw_sn0085_01 Mine.K := by
  k_fill
  exact trivial

noncomputable def levT (ts : Int) (st : WS) : Int := match st.count with
  | [_, c1] => if ts = 1 then st.b + 1 * (c1 + st.nt) else st.b + ts * st.nt
  | _ => st.b + ts * st.nt
noncomputable def LevOk (st : WS) : Prop := 0 ≤ st.b ∧ st.b < 1000 ∧ 0 ≤ st.nt ∧ st.nt < 100 ∧ (st.count.length ≤ 1 ∨ ∃ c0 c1, st.count = [c0, c1] ∧ 0 ≤ c1 ∧ c1 < 100)
theorem lev_spec {w p loose mean mg mb} (x : Str) (st : WS) (v : Value) (ts : Int) (t : Tok) (news : Led) (H : WsIn w.params news v x st) (hts : ts = 1 ∨ ts = 12) (ok : LevOk st) : CallD w p loose mean mg mb 52 2 24 news [v, .int ts t] (fun tl r => tl = [] ∧ ∃ t, r = .int (levT ts st) t) := by
  obtain ⟨h1, h2, h3, h4, h5⟩ := ok
  rcases h5 with h5 | ⟨c0, c1, h5, h6, h7⟩
  · have e : levT ts st = st.b + ts * st.nt := by
      unfold levT
      split
      · rename_i e; rw [e] at h5; simp at h5
      · rfl
    rw [e]
    exact indent_spec x st v ts t news H (by omega) (by omega) (by omega) h1 h2 h3 h4
  · rcases hts with rfl | rfl
    · have e : levT 1 st = st.b + 1 * (c1 + st.nt) := by unfold levT; rw [h5]; simp
      rw [e]
      exact indent1_spec x st v t news H c0 c1 h5 h1 h2 h3 h4 h6 h7
    · have e : levT 12 st = st.b + 12 * st.nt := by unfold levT; rw [h5]; simp
      rw [e]
      exact indent_spec x st v 12 t news H (by omega) (by omega) (by rw [h5]; simp) h1 h2 h3 h4
local macro_rules | `(tactic| walk_at "eval Lambda") => `(tactic| (k_here; (with_reducible rename IsRange _ _ _ _ _ _ _ _ => zR); refine stop ?_))
theorem mem18 {α : Type} {x a b c d : α} {n own : List α} (h : x ∈ n) : x ∈ (a :: b :: c :: d :: n) ++ own := List.mem_append.mpr (.inl (.tail _ (.tail _ (.tail _ (.tail _ h)))))
theorem ints_ne_same {prog : Program} {w : World} {A : Around} {E : Value → Shared → Prop} {s : Shared} {h₀ : Heap} {L a b : Addr} {news : Led} {xs : List Value} {ns : List Int} {ys : List Value} {ms : List Int} {ka kb : Nat} {Q : Value → Shared → Prop} (N : News h₀ L s.heap news) (ma : (a, listOf xs.toArray ka) ∈ news) (hi : IntsAre xs ns) (mb : (b, listOf ys.toArray kb) ∈ news) (hj : IntsAre ys ms) (hu : A.units + 64 < cLine) (e : ns = ms)
    (h : Q (.bool false) s) : wpAny (model prog w) A (compareOp .NotEq (.ref a) (.ref b)) Q E s := ints_ne N ma hi mb hj hu (by rw [decide_eq_true e]; exact h)
theorem seg18 {w : World} {p : Program} {loose : List Str} {mean : ExcName → Option Value} {mg mb : Str → Option Value} {L fa ll : Addr} {h₀ : Heap} {s : Shared} {m : Str → Option Value} {R : Led} {Q : Flow → Shared → Prop} {E : Value → Shared → Prop} {rest : List Stmt} {ways : List (List Int)} {fr : List Nat} {ol : Obj} {lv : List Value} {lk : Nat}
    (Bw : Below callerA h₀ [] h₀) (X : (Mine.K w.params).In h₀) (T : Top p loose mean mg mb h₀) (F : Fr h₀ L s.heap m) (N : News h₀ L s.heap ((217, tabObj #[]) :: R)) (hC : CodeHd h₀ 219 217) (hR : ∀ p ∈ R, p.1 ≠ 217) (hl6 : (L + 1 + 1 + 1 + 1 + 1 + 1, ol) ∈ R) (hol : ol.data = .cell (some (.ref ll))) (hll : (ll, listOf lv.toArray lk) ∈ R) (hlv : lv.length = 6)
    (hlw : ∀ (j : Nat) (v : Value), lv[j]? = some v → WsIn w.params R v ⟨(leadL fr ways j).toArray⟩ (wsOf (leadL fr ways j))) (hok : ∀ i : Nat, i < 6 → LevOk (wsOf (leadL fr ways i)))
    (hs1 : ([0, 1, 2, 3, 4, 5] : List Int).Pairwise fun x y => levT 1 (wsOf (leadL fr ways x.toNat)) < levT 1 (wsOf (leadL fr ways y.toNat)))
    (k : ∀ (c : Addr) (h' : Heap) (tk : Nat) (m' : Str → Option Value), Fr h₀ L h' m' → News h₀ L h' ((217, tabObj #[rawInt 194, rawInt 28, .ref c]) :: R) → m' = m → wpAny (model prog w) (lawA L fa) (execs rest (lawEnv L fa)) Q E { s with heap := h', toks := tk }) :
    wpAny (model prog w) (lawA L fa) (execs (lawB18 :: rest) (lawEnv L fa)) Q E s := by
  k_with_none
  (k_with "mine all" => first | assumption | (refine' List.forall_mem_cons.mpr ⟨?a, ?b⟩; (case a => k_ne); (case b => k_all)))
  (k_with "call builtin:sorted" => (k_here; refine stop ?_))
  (k_with "call ref" => (k_here; (with_reducible show wpAny _ _ (call (Value.ref 52) _) _ _ _); refine stop ?_))
  (k_with "mine mem" => exact mem18 (by with_reducible_and_instances assumption))
  (k_with "eval Name" => (k_here; (with_reducible show wpAny _ _ (eval (Expr.Name (Str.ofString "leads") _) _) _ _ _); k_dflt (refine' nameX_F ?N ?c ?m ?d ?_ ?a ?b; (case a => exact rfl); (case b => kernel_rfl!); (case N => k_asm); (case c => rfl); (case m => exact mem18 (by with_reducible_and_instances assumption)); (case d => with_reducible assumption))))
  (k_with "subscriptTail Name Name ref int" => (k_here; k_dflt (refine' lead_item ?k1 ?k2 (by assumption) ?k3 ?k4 ?_ (by with_unfolding_all rfl); (case k1 => k_asm); (case k2 => exact mem18 (by with_reducible_and_instances assumption)); (case k3 => assumption); (case k4 => omega); k_whole); walk_at "mine tail1"))
  (k_with "compareOp NotEq ref ref" => (k_here; k_dflt (refine ints_ne_same (by k_asm) (.tail _ (.head _)) (by assumption) (.head _) (.cons _ _ (.cons _ _ (.cons _ _ (.cons _ _ (.cons _ _ (.cons _ _ .nil)))))) (by ktr_units) rfl ?_)))
  unfold lawA lawEnv
  conv in (occs := *) lawB18 => all_goals whnf
  conv in (occs := *) lawSc => all_goals whnf
  k_steps
  unfold Stop
  rename_i F0 N0 h' tk' u1 u2 u3 hr F2 N2 hk2
  have N3 : News h₀ L h' ((217, tabObj #[]) :: (s.heap.objs.size, _) :: R) := fun p hp => by
    rcases List.mem_cons.mp hp with rfl | hp
    · exact N2 _ (.head _)
    rcases List.mem_cons.mp hp with rfl | hp
    · exact ⟨hr, Nat.ne_of_gt F0.ns.lt, Heap.get?_none_of_le (Nat.le_trans F0.above (Nat.le_of_lt F0.ns.lt))⟩
    · exact N2 _ (.tail _ hp)
  have hr217 : @Ne Nat s.heap.objs.size 217 := Nat.ne_of_gt (Heap.lt_size (N0 _ (.head _)).1)
  have hR2 : ∀ p ∈ R, p.1 ≠ s.heap.objs.size := fun p hp => Nat.ne_of_lt (Heap.lt_size (N0 _ (.tail _ hp)).1)
  generalize s.heap.objs.size = r at *
  clear N2 hr hk2 N0 F0
  k_steps
  unfold Stop
  rename_i f' c' oc' vs' t' ct' h2 tk2 F3 N4 d1 d2 l1 l2
  refine sorted_rng (n := 6) (b := false) (kz := ([0, 1, 2, 3, 4, 5] : List Int).map fun x => levT 1 (wsOf (leadL fr ways x.toNat))) rfl F3 N4 (N4 _ (.tail _ (.tail _ (.tail _ (.head _))))).1 rfl (by decide) (ksk_s1 _ _) (fun _ => ksk_l1 _ _) (fun _ => ksk_t1 _ _) ?_ ?_
  · intro i t k hi hk h tk own F5 N5
    have hk' : k = levT 1 (wsOf (leadL fr ways i)) := by
      rw [List.getElem?_map] at hk
      match i, hi with
      | 0, _ => exact (Option.some.inj hk).symm
      | 1, _ => exact (Option.some.inj hk).symm
      | 2, _ => exact (Option.some.inj hk).symm
      | 3, _ => exact (Option.some.inj hk).symm
      | 4, _ => exact (Option.some.inj hk).symm
      | 5, _ => exact (Option.some.inj hk).symm
    subst hk'
    clear hk
    k_steps
    unfold Stop
    refine' callD_use (lev_spec _ (wsOf (leadL fr ways i)) _ 1 _ _ ?a1 (.inl rfl) (hok i hi)) ?k1 ?k2 ?k3 ?k4 ?k5 ?k6 ?k7 ?k8 ?_
    case k1 => k_asm
    case k2 => k_asm
    case k3 => k_asm
    case k4 => k_asm
    case k5 => k_asm
    case k6 => first | exact rfl | assumption
    case k7 => first | omega | ktr_room
    case k8 => first | omega | ktr_units
    case a1 => exact WsIn.mono (by assumption) fun p hp => mem18 hp
    intro r7 tl7 h7 tk7 F7 N7 o7 p7
    obtain ⟨rfl, t7, rfl⟩ := p7
    rw [List.nil_append] at N7
    k_steps
  · intro D h tk out c vs hvs F5 N5 o5 ko
    have hI := ksk_order (g := fun x => levT 1 (wsOf (leadL fr ways x.toNat))) (ns := [0, 1, 2, 3, 4, 5]) (o := [0, 1, 2, 3, 4, 5]) hvs ko (.refl _) hs1
    obtain ⟨out⟩ := out
    have N6 : News h₀ L h ((D, listOf out.toArray c) :: (217, _) :: R) := fun p hp => by
      rcases List.mem_cons.mp hp with rfl | hp
      · exact N5 _ (.head _)
      rcases List.mem_cons.mp hp with rfl | hp
      · exact N5 _ (.tail _ (.tail _ (.tail _ (.head _))))
      · exact N5 _ (.tail _ (.tail _ (.tail _ (.tail _ (.tail _ hp)))))
    have hD217 : @Ne Nat D 217 := Nat.ne_of_gt (o5 _ (.tail _ (.tail _ (.head _))))
    clear N5 N4 N3 F3 F2 o5 ko
    k_steps
    rename News _ _ _ _ => N8
    exact k c' _ _ _ (by k_asm) (fun p hp => N8 p (.tail _ (.tail _ hp))) rfl
end Mine
end
theorem Mine.clean36 : True := by
  k_with_none
  trivial
local macro_rules | `(tactic| walk_at "mine none") => `(tactic| fail "none")
local macro_rules | `(tactic| walk_at "mine none") => `(tactic| fail "none")
section
open PySem PySem.W PySem.Spec PySem.Calls PyProof.Rows
set_option maxHeartbeats 800000
namespace Mine
theorem regM17 : (fun (_ : OpenLaw) (_ : Params → Frag) => True) PySem.Challenge.rw_sn0085_01 Mine.K := by
  k_fill
  exact trivial
section
variable {prog : Program} {w : World} {A : Around} {E : Value → Shared → Prop} {s : Shared} {h₀ : Heap} {L l : Addr} {news R : Led}
noncomputable abbrev lessRow (fr : List Nat) (ways : List (List Int)) (i : Nat) : Dat := .list ((List.range 6).map fun j => .bool (ltW fr ways i j))
theorem row_item {value slice : PySem.Expr} {fr : List Nat} {ways : List (List Int)} {x : Nat} {u : Tok} {Q : Value → Shared → Prop} (N : News h₀ L s.heap news) (D : DatIn R (.ref l) (lessD fr ways)) (sub : ∀ p ∈ R, p ∈ news) (hx : x < 6)
    (h : ∀ l', DatIn R (.ref l') (lessRow fr ways x) → Q (.ref l') s)
    (hs : subscripted slice false (.ref l) (.int (x : Int) u) = operate [.ref l, .int (x : Int) u] (getItem (.ref l) (.int (x : Int) u)) := by with_unfolding_all rfl) :
    wpAny (model prog w) A (subscriptTail value slice (.ref l) (.int (x : Int) u)) Q E s := by
  refine d_item N D sub (Int.natCast_nonneg _) (by rw [List.length_map, List.length_range]; omega) (by rw [List.length_map, List.length_range]; decide) (fun v d e _ hv => ?_) hs
  rw [Int.toNat_natCast, List.getElem?_map, List.getElem?_range hx] at e
  cases e
  cases hv with
  | list a b => exact h _ (.list a b)
theorem col_item {value slice : PySem.Expr} {fr : List Nat} {ways : List (List Int)} {x y : Nat} {b : Bool} {u : Tok} {Q : Value → Shared → Prop} (N : News h₀ L s.heap news) (D : DatIn R (.ref l) (lessRow fr ways x)) (sub : ∀ p ∈ R, p ∈ news) (hy : y < 6) (hb : ltW fr ways x y = b)
    (h : Q (.bool b) s)
    (hs : subscripted slice false (.ref l) (.int (y : Int) u) = operate [.ref l, .int (y : Int) u] (getItem (.ref l) (.int (y : Int) u)) := by with_unfolding_all rfl) :
    wpAny (model prog w) A (subscriptTail value slice (.ref l) (.int (y : Int) u)) Q E s := by
  refine d_item N D sub (Int.natCast_nonneg _) (by rw [List.length_map, List.length_range]; omega) (by rw [List.length_map, List.length_range]; decide) (fun v d e _ hv => ?_) hs
  rw [Int.toNat_natCast, List.getElem?_map, List.getElem?_range hy] at e
  cases e
  cases hv
  rw [hb]; exact h
end
noncomputable def betwN (fr : List Nat) (ways : List (List Int)) (i j k : Nat) : List Int := ((List.range k).filter fun t => ltW fr ways i t && ltW fr ways t j).map fun t : Nat => (t : Int)
theorem mem17 {α : Type} {x a b c d e : α} {n : List α} (h : x ∈ n) : x ∈ a :: b :: c :: d :: e :: n := .tail _ (.tail _ (.tail _ (.tail _ (.tail _ h))))
theorem t_between {w : World} {p : Program} {loose : List Str} {mean : ExcName → Option Value} {mg mb : Str → Option Value} {L fa D : Addr} {h₀ : Heap} {s : Shared} {m : Str → Option Value} {R : Led} {Q : Flow → Shared → Prop} {E : Value → Shared → Prop} {rest : List Stmt} {ways : List (List Int)} {fr : List Nat} {i j : Nat} {t3 t4 : Tok} {o3 o4 o5 : Obj}
    (Bw : Below callerA h₀ [] h₀) (X : (Mine.K w.params).In h₀) (T : Top p loose mean mg mb h₀) (F : Fr h₀ L s.heap m) (N : News h₀ L s.heap ((L + 1 + 1 + 1, o3) :: (L + 1 + 1 + 1 + 1, o4) :: R)) (ho3 : o3.data = .cell (some (.int (i : Nat) t3))) (ho4 : o4.data = .cell (some (.int (j : Nat) t4))) (ho5 : o5.data = .cell (some (.ref D))) (h5 : (L + 1 + 1 + 1 + 1 + 1, o5) ∈ R)
    (hD : DatIn R (.ref D) (lessD fr ways)) (hi : i < 6) (hj : j < 6)
    (k : ∀ (D' : Addr) (ys : List Value) (n : Nat) (h' : Heap) (tk : Nat) (m' : Str → Option Value), Fr h₀ L h' m' → News h₀ L h' ((D', listOf ys.toArray n) :: (L + 1 + 1 + 1, o3) :: (L + 1 + 1 + 1 + 1, o4) :: R) → (∀ q ∈ (L + 1 + 1 + 1, o3) :: (L + 1 + 1 + 1 + 1, o4) :: R, q.1 ≠ D') → IntsAre ys (betwN fr ways i j 6) → m' = (fun y => if y = Str.ofString "between" then some (.ref D') else m y) → wpAny (model prog w) (lawA L fa) (execs rest (lawEnv L fa)) Q E { s with heap := h', toks := tk }) :
    wpAny (model prog w) (lawA L fa) (execs (lawD1 :: rest) (lawEnv L fa)) Q E s := by
  k_with_none
  (k_with "eval Name" => (k_here; (with_reducible show wpAny _ _ (eval (Expr.Name (Str.ofString "less") _) (compEnvC _ _ _ _)) _ _ _); k_dflt (refine' lcf_cell ?N ?c ?m ?d ?_ ?a ?b; (case a => exact rfl); (case N => k_asm); (case c => exact rfl); (case m => exact mem17 (by with_reducible_and_instances assumption)); (case d => with_reducible assumption); (case b => kernel_rfl!))))
  (k_with "eval Name" => (k_here; (with_reducible show wpAny _ _ (eval (Expr.Name (Str.ofString "one") _) (compEnvC _ _ _ _)) _ _ _); k_dflt (refine' lcf_cell ?N ?c ?m ?d ?_ ?a ?b; (case a => exact rfl); (case N => k_asm); (case c => exact rfl); (case m => exact .tail _ (.tail _ (.tail _ (.head _)))); (case d => with_reducible assumption); (case b => kernel_rfl!))))
  (k_with "eval Name" => (k_here; (with_reducible show wpAny _ _ (eval (Expr.Name (Str.ofString "other") _) (compEnvC _ _ _ _)) _ _ _); k_dflt (refine' lcf_cell ?N ?c ?m ?d ?_ ?a ?b; (case a => exact rfl); (case N => k_asm); (case c => exact rfl); (case m => exact .tail _ (.tail _ (.tail _ (.tail _ (.head _))))); (case d => with_reducible assumption); (case b => kernel_rfl!))))
  (k_with "eval Name" => (k_here; (with_reducible show wpAny _ _ (eval (Expr.Name (Str.ofString "third") _) (compEnvC _ _ _ _)) _ _ _); k_dflt (refine' LCgL.ld_own ?a ?b ?c ?d ?_; (case a => k_asm); (case b => exact .tail _ (.head _)); (case c => assumption); (case d => assumption))))
  (k_with "subscriptTail Name Name ref int" => (k_here; first | (k_dflt (refine' row_item ?k1 (by assumption) ?k2 ?k4 ?_ (by with_unfolding_all rfl); (case k1 => k_asm); (case k2 => (intro p hp; exact mem17 hp)); (case k4 => omega)); intro _ _) | k_dflt (refine' col_item ?k1 (by assumption) ?k2 ?k4 (by assumption) ?_ (by with_unfolding_all rfl); (case k1 => k_asm); (case k2 => (intro p hp; exact mem17 hp)); (case k4 => omega))))
  (k_with "exec Assign cons ListComp" => (k_here; k_dflt (refine LCt.Assign_ListComp_T (F₀ := by k_asm) (by rfl) (by with_unfolding_all rfl) (by with_unfolding_all rfl) (by decide) (by rfl) (by decide) (by rfl) (by rfl) (by rfl) ?_)))
  (k_with "eval ListComp" => (k_here; k_dflt (refine LCt.ListComp_T (F₀ := by k_asm) (by with_unfolding_all rfl) (by decide) (by rfl) (by decide) (by rfl) ?_)))
  (k_with "CompSrcT" => (k_here; refine stop ?_))
  unfold lawA lawEnv
  conv in (occs := *) lawD1 => all_goals whnf
  conv in (occs := *) lawSc => all_goals whnf
  k_steps
  unfold Stop
  rename_i u1 u2 u3 hr F2 N2 hk2
  refine compT_up (fun k ys => IntsAre ys (betwN fr ways i j k)) rfl F2 N2 hr (by decide) .nil ?_ ?_
  · rintro k ys t I oI C oC D2 m₂ h tk E' hk hJ hC hx F₁ N₁ off ne
    have hk6 : k < 6 := hk
    clear hr F2 N2 hk2
    have hs : betwN fr ways i j (k + 1) = betwN fr ways i j k ++ (if ltW fr ways i k && ltW fr ways k j then [(k : Int)] else []) := by
      unfold betwN
      rw [List.range_succ, List.filter_append, List.map_append]
      congr 1
      cases e : (ltW fr ways i k && ltW fr ways k j) <;> simp only [List.filter, e] <;> rfl
    cases h1 : ltW fr ways i k with
    | false =>
      rw [h1, Bool.false_and, if_neg (by decide), List.append_nil] at hs
      k_steps
      refine' comp_end (tl9 := []) (tl := []) ?kf N₁ ord_nil off ?kj
      case kf => k_asm
      case kj => exact ⟨rfl, hs ▸ hJ⟩
    | true =>
      cases h2 : ltW fr ways k j with
      | false =>
        rw [h1, h2, Bool.and_false, if_neg (by decide), List.append_nil] at hs
        k_steps
        refine' comp_end (tl9 := []) (tl := []) ?kf N₁ ord_nil off ?kj
        case kf => k_asm
        case kj => exact ⟨rfl, hs ▸ hJ⟩
      | true =>
        rw [h1, h2, Bool.and_true, if_pos rfl] at hs
        k_steps
        refine' comp_end (tl9 := []) (tl := []) ?kf N₁ ord_nil off ?kj
        case kf => k_asm
        case kj => exact ⟨rfl, hs ▸ hJ.append (.cons _ _ .nil)⟩
  · intro g ys hJ D' h tk F₁ N₁ o₁
    k_steps
    refine k D' ys _ _ _ _ (by k_asm) N₁ (off1_mem o₁) hJ rfl
end Mine
end
theorem Mine.clean37 : True := by
  k_with_none
  trivial
section
open PySem PySem.W PySem.Spec PySem.Calls PyProof.Rows
set_option maxHeartbeats 800000
namespace Mine
theorem regM19 : (fun (_ : OpenLaw) (_ : Params → Frag) => True) PySem.Challenge.rw_sn0085_01 Mine.K := by
  k_fill
  exact trivial
local macro_rules | `(tactic| walk_at "eval Lambda") => `(tactic| (k_here; (with_reducible rename IsRange _ _ _ _ _ _ _ _ => zR); refine stop ?_))
theorem ints_eq_same {prog : Program} {w : World} {A : Around} {E : Value → Shared → Prop} {s : Shared} {h₀ : Heap} {L a b : Addr} {news : Led} {xs : List Value} {ns : List Int} {ys : List Value} {ms : List Int} {ka kb : Nat} {Q : Value → Shared → Prop} (N : News h₀ L s.heap news) (ma : (a, listOf xs.toArray ka) ∈ news) (hi : IntsAre xs ns) (mb : (b, listOf ys.toArray kb) ∈ news) (hj : IntsAre ys ms) (hu : A.units + 64 < cLine) (e : ns = ms)
    (h : Q (.bool true) s) : wpAny (model prog w) A (compareOp .Eq (.ref a) (.ref b)) Q E s := ints_eq_yes e N ma hi mb hj hu h
theorem seg19 {w : World} {p : Program} {loose : List Str} {mean : ExcName → Option Value} {mg mb : Str → Option Value} {L fa ll wa c0 : Addr} {h₀ : Heap} {s : Shared} {m : Str → Option Value} {R : Led} {Q : Flow → Shared → Prop} {E : Value → Shared → Prop} {rest : List Stmt} {ways : List (List Int)} {fr : List Nat} {ol : Obj} {lv : List Value} {lk : Nat} {res : List Int}
    (Bw : Below callerA h₀ [] h₀) (X : (Mine.K w.params).In h₀) (T : Top p loose mean mg mb h₀) (F : Fr h₀ L s.heap m) (N : News h₀ L s.heap ((217, tabObj #[rawInt 194, rawInt 28, .ref c0]) :: R)) (hC : CodeHd h₀ 219 217) (hR : ∀ p ∈ R, p.1 ≠ 217) (hl6 : (L + 1 + 1 + 1 + 1 + 1 + 1, ol) ∈ R) (hol : ol.data = .cell (some (.ref ll))) (hll : (ll, listOf lv.toArray lk) ∈ R) (hlv : lv.length = 6)
    (hlw : ∀ (j : Nat) (v : Value), lv[j]? = some v → WsIn w.params R v ⟨(leadL fr ways j).toArray⟩ (wsOf (leadL fr ways j))) (hok : ∀ i : Nat, i < 6 → LevOk (wsOf (leadL fr ways i)))
    (hm : m (Str.ofString "ways") = some (.ref wa)) (hW : DatIn R (.ref wa) (.list (waysD ways))) (hwl : ways.length = 6) (hws : ∀ x ∈ ways, x.length ≤ 6) (hwn : ∀ x ∈ ways, x ≠ [])
    (hr : rightW ways 7 [] = res) (hrp : res.Perm [0, 1, 2, 3, 4, 5]) (hs12 : res.Pairwise fun x y => levT 12 (wsOf (leadL fr ways x.toNat)) < levT 12 (wsOf (leadL fr ways y.toNat)))
    (k : ∀ (h' : Heap) (tk : Nat) (xs : Array Value), Fr h₀ L h' m → News h₀ L h' ((217, tabObj xs) :: R) → Q (.ret (.bool true)) { s with heap := h', toks := tk }) :
    wpAny (model prog w) (lawA L fa) (execs (lawB19 :: rest) (lawEnv L fa)) Q E s := by
  k_with_none
  (k_with "mine all" => first | assumption | (refine' List.forall_mem_cons.mpr ⟨?a, ?b⟩; (case a => k_ne); (case b => k_all)))
  (k_with "call builtin:sorted" => (k_here; refine stop ?_))
  (k_with "call ref" => (k_here; (with_reducible show wpAny _ _ (call (Value.ref 52) _) _ _ _); refine stop ?_))
  (k_with "call ref" => (k_here; (with_reducible show wpAny _ _ (call (Value.ref 215) _) _ _ _); refine stop ?_))
  (k_with "mine mem" => exact mem18 (by with_reducible_and_instances assumption))
  (k_with "eval Name" => (k_here; (with_reducible show wpAny _ _ (eval (Expr.Name (Str.ofString "leads") _) _) _ _ _); k_dflt (refine' nameX_F ?N ?c ?m ?d ?_ ?a ?b; (case a => exact rfl); (case b => kernel_rfl!); (case N => k_asm); (case c => rfl); (case m => exact mem18 (by with_reducible_and_instances assumption)); (case d => with_reducible assumption))))
  (k_with "subscriptTail Name Name ref int" => (k_here; k_dflt (refine' lead_item ?k1 ?k2 (by assumption) ?k3 ?k4 ?_ (by with_unfolding_all rfl); (case k1 => k_asm); (case k2 => exact mem18 (by with_reducible_and_instances assumption)); (case k3 => assumption); (case k4 => omega); k_whole); walk_at "mine tail1"))
  (k_with "compareOp Eq ref ref" => (k_here; refine stop ?_))
  have F' := fr_told [(Str.ofString "ways", .ref wa)] (by intro p hp; rw [List.mem_singleton.mp hp]; exact hm) F
  dsimp only [kstB] at F'
  clear F
  unfold lawA lawEnv
  conv in (occs := *) lawB19 => all_goals whnf
  conv in (occs := *) lawSc => all_goals whnf
  k_steps
  unfold Stop
  rename_i N0 F0 h' tk' u1 u2 u3 hr0 F2 N2 hk2
  have N3 : News h₀ L h' ((217, tabObj #[rawInt 194, rawInt 28, .ref c0]) :: (s.heap.objs.size, _) :: R) := fun p hp => by
    rcases List.mem_cons.mp hp with rfl | hp
    · exact N2 _ (.head _)
    rcases List.mem_cons.mp hp with rfl | hp
    · exact ⟨hr0, Nat.ne_of_gt F0.ns.lt, Heap.get?_none_of_le (Nat.le_trans F0.above (Nat.le_of_lt F0.ns.lt))⟩
    · exact N2 _ (.tail _ hp)
  have hr217 : @Ne Nat s.heap.objs.size 217 := Nat.ne_of_gt (Heap.lt_size (N0 _ (.head _)).1)
  have hR2 : ∀ p ∈ R, p.1 ≠ s.heap.objs.size := fun p hp => Nat.ne_of_lt (Heap.lt_size (N0 _ (.tail _ hp)).1)
  generalize s.heap.objs.size = r at *
  clear N2 hr0 hk2 N0 F0
  k_steps
  unfold Stop
  rename_i f' c' oc' vs' t' ct' h2 tk2 F3 N4 d1 d2 l1 l2
  refine sorted_rng (n := 6) (b := false) (kz := ([0, 1, 2, 3, 4, 5] : List Int).map fun x => levT 12 (wsOf (leadL fr ways x.toNat))) rfl F3 N4 (N4 _ (.tail _ (.tail _ (.tail _ (.head _))))).1 rfl (by decide) (ksk_s1 _ _) (fun _ => ksk_l1 _ _) (fun _ => ksk_t1 _ _) ?_ ?_
  · intro i t k hi hk h tk own F5 N5
    have hk' : k = levT 12 (wsOf (leadL fr ways i)) := by
      rw [List.getElem?_map] at hk
      match i, hi with
      | 0, _ => exact (Option.some.inj hk).symm
      | 1, _ => exact (Option.some.inj hk).symm
      | 2, _ => exact (Option.some.inj hk).symm
      | 3, _ => exact (Option.some.inj hk).symm
      | 4, _ => exact (Option.some.inj hk).symm
      | 5, _ => exact (Option.some.inj hk).symm
    subst hk'
    clear hk
    k_steps
    unfold Stop
    refine' callD_use (lev_spec _ (wsOf (leadL fr ways i)) _ 12 _ _ ?a1 (.inr rfl) (hok i hi)) ?k1 ?k2 ?k3 ?k4 ?k5 ?k6 ?k7 ?k8 ?_
    case k1 => k_asm
    case k2 => k_asm
    case k3 => k_asm
    case k4 => k_asm
    case k5 => k_asm
    case k6 => first | exact rfl | assumption
    case k7 => first | omega | ktr_room
    case k8 => first | omega | ktr_units
    case a1 => exact WsIn.mono (by assumption) fun p hp => mem18 hp
    intro r7 tl7 h7 tk7 F7 N7 o7 p7
    obtain ⟨rfl, t7, rfl⟩ := p7
    rw [List.nil_append] at N7
    k_steps
  · intro D h tk out c vs hvs F5 N5 o5 ko
    have hI := ksk_order (g := fun x => levT 12 (wsOf (leadL fr ways x.toNat))) (ns := [0, 1, 2, 3, 4, 5]) (o := res) hvs ko hrp hs12
    obtain ⟨out⟩ := out
    have N6 : News h₀ L h ((D, listOf out.toArray c) :: (217, _) :: R) := fun p hp => by
      rcases List.mem_cons.mp hp with rfl | hp
      · exact N5 _ (.head _)
      rcases List.mem_cons.mp hp with rfl | hp
      · exact N5 _ (.tail _ (.tail _ (.tail _ (.head _))))
      · exact N5 _ (.tail _ (.tail _ (.tail _ (.tail _ (.tail _ hp)))))
    have hD217 : @Ne Nat D 217 := Nat.ne_of_gt (o5 _ (.tail _ (.tail _ (.head _))))
    clear N5 N4 N3 F3 F2 o5 ko
    k_steps
    unfold Stop
    rename News _ _ _ _ => N8
    refine' callD_use (right_spec ways hwl hws hwn wa 6 (Nat.le_refl _) [] (by decide) _ ?a1 _ [] 0 (.head _) .nil) ?k1 ?k2 ?k3 ?k4 ?k5 ?k6 ?k7 ?k8 ?_
    case k1 => k_asm
    case k2 => k_asm
    case k3 => k_asm
    case k4 => k_asm
    case k5 => k_asm
    case k6 => first | exact rfl | assumption
    case k7 => first | omega | ktr_room
    case k8 => first | omega | ktr_units
    case a1 => exact DatIn.mono (fun p hp => .tail _ (.tail _ (.tail _ hp))) hW
    intro r9 tl9 h9 tk9 F9 N9 o9 p9
    obtain ⟨D9, vs9, k9, rfl, rfl, hi9⟩ := p9
    simp only [List.cons_append, List.nil_append] at N9
    rw [hr] at hi9
    clear N8
    k_steps
    unfold Stop
    refine ints_eq_same (ns := res) (ms := res) N9 (.tail _ (.tail _ (.head _))) hI (.head _) hi9 (by ktr_units) rfl ?_
    refine k _ _ _ ?_ (fun p hp => N9 p (.tail _ (.tail _ (.tail _ hp))))
    rw [show m = (fun z => if z = Str.ofString "ways" then some (Value.ref wa) else m z) from funext fun y => (kst_one hm y).symm]
    exact F9
end Mine
end
theorem Mine.clean38 : True := by
  k_with_none
  trivial
local macro_rules | `(tactic| walk_at "mine none") => `(tactic| fail "none")
local macro_rules | `(tactic| walk_at "mine none") => `(tactic| fail "none")
section
open PySem PySem.W PySem.Spec PySem.Calls PyProof.Rows
set_option maxHeartbeats 800000
namespace Mine
theorem regM17b : (fun (_ : OpenLaw) (_ : Params → Frag) => True) PySem.Challenge.rw_sn0085_01 Mine.K := by
  k_fill
  exact trivial

theorem callG_use {w : World} {p : Program} {loose : List Str} {mean : ExcName → Option Value} {mg mb : Str → Option Value} {f : Addr} {dd uu : Nat} {news : Led} {vs : List Value} {post : Led → Value → Prop}
    {dp un : Nat} {gd : Option (List Code)} {cn : Str} {cs : Scope} {a : Addr} {ccd : Value} {cl : List (Str × Addr)} {outer : List Env} {A₀ : Around} {base h₀ : Heap} {L : Addr} {m : Str → Option Value} {s : Shared} {Q E : Value → Shared → Prop}
    (S : CallG w p loose mean mg mb f dd uu news vs post) (B : Below A₀ base outer h₀) (F : Fr h₀ L s.heap m) (X : (Mine.K w.params).In h₀) (N : News h₀ L s.heap news) (T : Top p loose mean mg mb h₀) (hk : cs.kind = .function) (hd : dp + dd < recursionLimit) (hu : un + uu < cLine)
    (k : ∀ r tl h' tk' gs', (AllBare s.gens → AllBare gs') → Fr h₀ L h' m → News h₀ L h' (tl ++ news) → (∀ q ∈ news, ∀ p ∈ tl, q.1 < p.1) → post tl r → Q r { s with heap := h', gens := gs', toks := tk' }) :
    wpAny (model prog w) (ktrTop dp un gd cn cs L a ccd cl outer) (call (.ref f) vs) Q E s :=
  S dp un gd cn cs a ccd cl outer A₀ base h₀ L m s Q E B F X N T hk hd hu k
noncomputable abbrev cutAt (lx : List Nat) (ps : List Int) (i j : Nat) : Str := Txt.slice ⟨lx.toArray⟩ (some (ps.getD i 0 + 1)) (some (ps.getD j 0))
theorem int_item {prog : Program} {w : World} {A : Around} {E : Value → Shared → Prop} {s : Shared} {h₀ : Heap} {L l : Addr} {news : Led} {value slice : PySem.Expr} {vs : List Value} {ns : List Int} {n : Nat} {x : Nat} {u : Tok} {Q : Value → Shared → Prop} (N : News h₀ L s.heap news) (hm : (l, listOf vs.toArray n) ∈ news) (hi : IntsAre vs ns) (hx : x < ns.length) (hf : ns.length < 2 ^ 62)
    (h : ∀ t, Q (.int (ns.getD x 0) t) s)
    (hs : subscripted slice false (.ref l) (.int (x : Int) u) = operate [.ref l, .int (x : Int) u] (getItem (.ref l) (.int (x : Int) u)) := by with_unfolding_all rfl) :
    wpAny (model prog w) A (subscriptTail value slice (.ref l) (.int (x : Int) u)) Q E s := by
  have hlx : x < vs.length := by rw [hi.length]; exact hx
  have he : vs[x]? = some vs[x] := List.getElem?_eq_getElem hlx
  obtain ⟨d, td, hv, hdn⟩ := hi.at x _ he
  refine any_item N hm (Int.natCast_nonneg _) (by rw [Int.toNat_natCast]; exact he) (by omega) ?_ hs
  rw [hv]
  have : ns.getD x 0 = d := by rw [List.getD_eq_getElem?_getD, hdn]; rfl
  rw [← this]; exact h td
local macro_rules | `(tactic| walk_at "subscriptTail Name Slice str ref") => `(tactic| (k_here; (with_reducible rename Fr _ _ _ _ => F'); (with_reducible rename News _ _ _ _ => N'); (refine slice_strN_ss (hsz := ?hsz) (s := ⟨_, _, _, _, _⟩) F' N' ?_); (case hsz => assumption); intro _ _ _ _ _))
theorem t_tail {w : World} {p : Program} {loose : List Str} {mean : ExcName → Option Value} {mg mb : Str → Option Value} {L fa D pa : Addr} {h₀ : Heap} {s : Shared} {m : Str → Option Value} {R : Led} {Q : Flow → Shared → Prop} {E : Value → Shared → Prop} {rest : List Stmt} {ways : List (List Int)} {fr : List Nat} {i j : Nat} {t3 t4 tx : Tok} {o3 o4 o5 : Obj} {lx : List Nat} {ps : List Int} {pv : List Value} {pk : Nat} {hg : Bool}
    (Bw : Below callerA h₀ [] h₀) (X : (Mine.K w.params).In h₀) (T : Top p loose mean mg mb h₀) (F : Fr h₀ L s.heap m) (N : News h₀ L s.heap ((L + 1 + 1 + 1, o3) :: (L + 1 + 1 + 1 + 1, o4) :: R)) (ho3 : o3.data = .cell (some (.int (i : Nat) t3))) (ho4 : o4.data = .cell (some (.int (j : Nat) t4))) (ho5 : o5.data = .cell (some (.ref D))) (h5 : (L + 1 + 1 + 1 + 1 + 1, o5) ∈ R)
    (hD : DatIn R (.ref D) (lessD fr ways)) (hi : i < 6) (hj : j < 6) (mt : m (Str.ofString "text") = some (.str ⟨lx.toArray⟩ tx)) (mp : m (Str.ofString "places") = some (.ref pa)) (mh : m (Str.ofString "hangs") = some (.bool hg)) (hp : (pa, listOf pv.toArray pk) ∈ R) (hpv : IntsAre pv ps) (hpl : ps.length = 6) (hpb : ∀ k : Nat, k < 6 → 0 ≤ ps.getD k 0 ∧ ps.getD k 0 ≤ 1000) (hlx : (⟨lx.toArray⟩ : Str).length ≤ sizeLine)
    (hcut : i < j → (∀ c, c ∈ (cutAt lx ps i j).cps → c ≠ 34 ∧ c ≠ 92) ∧ parenW 0 (cutAt lx ps i j).cps.toList = (hg && decide (betwN fr ways i j 6 = [])))
    (k : ∀ (h' : Heap) (tk : Nat) (gs' : Array GenState) (m' : Str → Option Value), (AllBare s.gens → AllBare gs') → Fr h₀ L h' m' → News h₀ L h' ((L + 1 + 1 + 1, o3) :: (L + 1 + 1 + 1 + 1, o4) :: R) → (∀ y, y ≠ Str.ofString "taken" → y ≠ Str.ofString "between" → m' y = m y) → wpAny (model prog w) (lawA L fa) (execs rest (lawEnv L fa)) Q E { s with heap := h', gens := gs', toks := tk }) :
    wpAny (model prog w) (lawA L fa) (execs (lawC2 :: rest) (lawEnv L fa)) Q E s := by
  k_with_none
  (k_with "subscriptTail Name Name ref int" => (k_here; k_dflt (refine' int_item ?k1 ?k2 (by assumption) ?k3 ?k4 ?_ (by with_unfolding_all rfl); (case k1 => k_asm); (case k2 => (refine List.mem_cons_of_mem _ (List.mem_cons_of_mem _ ?_); with_reducible assumption)); (case k3 => omega); (case k4 => omega); k_whole); intro _))
  (k_with "call ref" => (k_here; (with_reducible show wpAny _ _ (call (Value.ref 116) _) _ _ _); refine stop ?_))
  (k_with "execs cons" => (k_here; (with_reducible show wpAny _ _ (execs (Stmt.Assign [Expr.Name (Str.ofString "between") _] _ _ :: _) _) _ _ _); refine stop ?_))
  (k_with "compareOp Eq ref ref" => (k_here; first | (k_dflt (refine ints_eq_yes (by assumption) (by k_asm) (.tail _ (.head _)) (by assumption) (.head _) .nil (by ktr_units) ?_)) | (k_dflt (refine ints_eq_no (by assumption) (by k_asm) (.tail _ (.head _)) (by assumption) (.head _) .nil (by ktr_units) ?_))))
  have F' := fr_told [(Str.ofString "text", .str ⟨lx.toArray⟩ tx), (Str.ofString "places", .ref pa), (Str.ofString "hangs", .bool hg)] (by
    intro p hp; simp only [List.mem_cons, List.not_mem_nil, or_false] at hp
    rcases hp with rfl | rfl | rfl
    · exact mt
    · exact mp
    · exact mh) F
  dsimp only [kstB] at F'
  clear F
  have hpi := hpb i hi
  have hpj := hpb j hj
  clear hpb
  unfold lawA lawEnv
  conv in (occs := *) lawC2 => all_goals whnf
  conv in (occs := *) lawSc => all_goals whnf
  by_cases hij : i < j
  · obtain ⟨hc1, hc2⟩ := hcut hij
    clear hcut
    k_steps
    unfold Stop
    refine' callG_use (paren_spec _ _ (fun c hc => (hc1 c hc).1) (fun c hc => (hc1 c hc).2) _) ?k1 ?k2 ?k3 ?k4 ?k5 ?k6 ?k7 ?k8 ?_
    case k1 => k_asm
    case k2 => k_asm
    case k3 => k_asm
    case k4 => k_asm
    case k5 => k_asm
    case k6 => first | exact rfl | assumption
    case k7 => first | omega | ktr_room
    case k8 => first | omega | ktr_units
    intro r9 tl9 h9 tk9 gs9 hgs9 F9 N9 o9 p9
    obtain ⟨rfl, rfl⟩ := p9
    rw [List.nil_append] at N9
    rw [hc2]
    k_steps
    unfold Stop
    refine' t_between (D := D) (ways := ways) (fr := fr) (i := i) (j := j) Bw X T ?g1 ?g2 ho3 ho4 ho5 h5 hD hi hj ?_
    case g1 => k_asm
    case g2 => k_asm
    intro D' ys n h2 tk2 m2 F2 N2 off2 hI2 hm2
    subst hm2
    generalize betwN fr ways i j 6 = bt at hI2 hc2 F2
    have hnil : IntsAre [] [] := .nil
    cases hg with
    | false =>
      simp only [Bool.false_and] at F2
      k_steps
      refine k _ _ _ _ hgs9 (by k_asm) (news_tail N2) ?_
      intro y h1 h2
      simp only [if_neg h1, if_neg h2, kst_one mt, kst_one mp, kst_one mh]
    | true =>
      simp only [Bool.true_and] at F2
      by_cases hb : bt = []
      · rw [decide_eq_true hb] at F2
        k_steps
        refine k _ _ _ _ hgs9 (by k_asm) (by rename News _ _ _ _ => N3; exact fun p hp => N3 p (.tail _ (.tail _ hp))) ?_
        intro y h1 h2
        simp only [if_neg h1, if_neg h2, kst_one mt, kst_one mp, kst_one mh]
      · rw [decide_eq_false hb] at F2
        k_steps
        refine k _ _ _ _ hgs9 (by k_asm) (by rename News _ _ _ _ => N3; exact fun p hp => N3 p (.tail _ (.tail _ hp))) ?_
        intro y h1 h2
        simp only [if_neg h1, if_neg h2, kst_one mt, kst_one mp, kst_one mh]
  · clear hcut
    k_steps
    refine k _ _ _ _ (fun q => q) (by k_asm) (by k_asm) ?_
    intro y h1 h2
    simp only [kst_one mt, kst_one mp, kst_one mh]
end Mine
end
theorem Mine.clean39 : True := by
  k_with_none
  trivial
local macro_rules | `(tactic| walk_at "mine none") => `(tactic| fail "none")
local macro_rules | `(tactic| walk_at "mine none") => `(tactic| fail "none")
section
open PySem PySem.W PySem.Spec PySem.Calls PyProof.Rows
set_option maxHeartbeats 800000
namespace Mine
theorem regM17c : (fun (_ : OpenLaw) (_ : Params → Frag) => True) PySem.Challenge.rw_sn0085_01 Mine.K := by
  k_fill
  exact trivial

noncomputable def hangsB (ways : List (List Int)) (i j : Nat) : Bool := decide (i ≠ j) && decide ((i : Int) ∈ ways.getD j [])
theorem ne_int_b {prog : Program} {w : World} {A : Around} {E : Value → Shared → Prop} {s : Shared} {x y : Int} {b : Bool} {t u : Tok} {Q : Value → Shared → Prop} (hb : (x != y) = b) (h : Q (.bool b) s) : wpAny (model prog w) A (compareOp .NotEq (.int x t) (.int y u)) Q E s := ne_int (by rw [hb]; exact h)
theorem ints_in_b {prog : Program} {w : World} {A : Around} {E : Value → Shared → Prop} {s : Shared} {h₀ : Heap} {L l : Addr} {news : Led} {vs : List Value} {ns : List Int} {n : Nat} {x : Int} {b : Bool} {t : Tok} {Q : Value → Shared → Prop} (hb : decide (x ∈ ns) = b) (N : News h₀ L s.heap news) (hm : (l, listOf vs.toArray n) ∈ news) (hi : IntsAre vs ns) (hu : A.units + 64 < cLine) (h : Q (.bool b) s) :
    wpAny (model prog w) A (compareOp .In (.int x t) (.ref l)) Q E s := ints_in N hm hi hu (by rw [hb]; exact h)
theorem t_body {w : World} {p : Program} {loose : List Str} {mean : ExcName → Option Value} {mg mb : Str → Option Value} {L fa D pa wa : Addr} {h₀ : Heap} {s : Shared} {m : Str → Option Value} {R : Led} {Q : Flow → Shared → Prop} {E : Value → Shared → Prop} {rest : List Stmt} {ways : List (List Int)} {fr : List Nat} {i j : Nat} {t3 t4 tx : Tok} {o3 o4 o5 : Obj} {lx : List Nat} {ps : List Int} {pv : List Value} {pk : Nat}
    (Bw : Below callerA h₀ [] h₀) (X : (Mine.K w.params).In h₀) (T : Top p loose mean mg mb h₀) (F : Fr h₀ L s.heap m) (N : News h₀ L s.heap ((L + 1 + 1 + 1, o3) :: (L + 1 + 1 + 1 + 1, o4) :: R)) (ho3 : o3.data = .cell (some (.int (i : Nat) t3))) (ho4 : o4.data = .cell (some (.int (j : Nat) t4))) (ho5 : o5.data = .cell (some (.ref D))) (h5 : (L + 1 + 1 + 1 + 1 + 1, o5) ∈ R)
    (hD : DatIn R (.ref D) (lessD fr ways)) (hi : i < 6) (hj : j < 6) (mw : m (Str.ofString "ways") = some (.ref wa)) (mt : m (Str.ofString "text") = some (.str ⟨lx.toArray⟩ tx)) (mp : m (Str.ofString "places") = some (.ref pa)) (hp : (pa, listOf pv.toArray pk) ∈ R) (hpv : IntsAre pv ps) (hpl : ps.length = 6) (hpb : ∀ k : Nat, k < 6 → 0 ≤ ps.getD k 0 ∧ ps.getD k 0 ≤ 1000) (hlx : (⟨lx.toArray⟩ : Str).length ≤ sizeLine)
    (hW : DatIn R (.ref wa) (.list (waysD ways))) (hwl : ways.length = 6) (hws : ∀ x ∈ ways, x.length ≤ 6)
    (hlt : ltW fr ways i j = hangsB ways i j)
    (hcut : i < j → (∀ c, c ∈ (cutAt lx ps i j).cps → c ≠ 34 ∧ c ≠ 92) ∧ parenW 0 (cutAt lx ps i j).cps.toList = (hangsB ways i j && decide (betwN fr ways i j 6 = [])))
    (k : ∀ (h' : Heap) (tk : Nat) (gs' : Array GenState) (m' : Str → Option Value), (AllBare s.gens → AllBare gs') → Fr h₀ L h' m' → News h₀ L h' ((L + 1 + 1 + 1, o3) :: (L + 1 + 1 + 1 + 1, o4) :: R) → (∀ y, y ≠ Str.ofString "hangs" → y ≠ Str.ofString "taken" → y ≠ Str.ofString "between" → m' y = m y) → wpAny (model prog w) (lawA L fa) (execs rest (lawEnv L fa)) Q E { s with heap := h', gens := gs', toks := tk }) :
    wpAny (model prog w) (lawA L fa) (execs (lawC0 :: lawC1 :: lawC2 :: rest) (lawEnv L fa)) Q E s := by
  k_with_none
  (k_with "compareOp NotEq int int" => (k_here; refine ne_int_b (by assumption) ?_))
  (k_with "subscriptTail Name Name ref int" => (k_here; first | (k_dflt (refine' row_item ?k1 (by assumption) ?k2 ?k4 ?_ (by with_unfolding_all rfl); (case k1 => k_asm); (case k2 => (intro p hp; exact .tail _ (.tail _ hp))); (case k4 => omega)); intro _ _) | (k_dflt (refine' col_item ?k1 (by assumption) ?k2 ?k4 (by assumption) ?_ (by with_unfolding_all rfl); (case k1 => k_asm); (case k2 => (intro p hp; exact .tail _ (.tail _ hp))); (case k4 => omega))) | (k_dflt (refine' way_item ?k1 ?k2 (by assumption) ?k3 ?k4 ?k5 ?_ (by with_unfolding_all rfl); (case k1 => k_asm); (case k2 => exact .tail _ (.tail _ (by assumption))); (case k3 => omega); (case k4 => omega); (case k5 => omega); k_whole); walk_at "mine tail0")))
  (k_with "compareOp In" => (k_here; k_dflt (refine' ints_in_b (by assumption) ?k1 ?k2 (by assumption) ?k3 ?_; (case k1 => k_asm); (case k2 => exact .tail _ (.tail _ (by assumption))); (case k3 => ktr_units))))
  (k_with "mine mem" => exact .tail _ (.tail _ (by with_reducible_and_instances assumption)))
  (k_with "eval Name" => (k_here; (with_reducible show wpAny _ _ (eval (Expr.Name (Str.ofString "less") _) _) _ _ _); k_dflt (refine' nameX_C ?N ?c ?m ?d ?_ ?a ?b; (case a => exact rfl); (case b => kernel_rfl!); (case N => k_asm); (case c => rfl); (case m => exact .tail _ (.tail _ (by with_reducible_and_instances assumption))); (case d => with_reducible assumption))))
  (k_with "execs cons" => (k_here; (with_reducible show wpAny _ _ (execs (Stmt.If (Expr.Compare (Expr.Name (Str.ofString "one") _) _ _ _) _ _ _ :: _) _) _ _ _); refine stop ?_))
  have F' := fr_told [(Str.ofString "ways", .ref wa)] (by intro p hp; rw [List.mem_singleton.mp hp]; exact mw) F
  dsimp only [kstB] at F'
  clear F
  cases hW with
  | @list _ wv wk _ hwm hways =>
  have hA := way_len ways j hws
  unfold lawA lawEnv
  conv in (occs := *) lawC0 => all_goals whnf
  conv in (occs := *) lawC1 => all_goals whnf
  conv in (occs := *) lawC2 => all_goals whnf
  conv in (occs := *) lawSc => all_goals whnf
  unfold hangsB at hlt hcut
  by_cases hij : i = j
  · have hne : ((i : Int) != (j : Int)) = false := by simp [hij]
    rw [decide_eq_false (by omega), Bool.false_and] at hlt hcut
    k_steps
    unfold Stop
    refine' t_tail (D := D) (ways := ways) (fr := fr) (i := i) (j := j) Bw X T ?g1 ?g2 ho3 ho4 ho5 h5 hD hi hj ?g3 ?g4 ?g5 hp hpv hpl hpb hlx hcut ?_
    case g1 => k_asm
    case g2 => k_asm
    case g3 => exact (if_neg (by decide)).trans ((if_neg (by decide)).trans mt)
    case g4 => exact (if_neg (by decide)).trans ((if_neg (by decide)).trans mp)
    case g5 => rfl
    intro h' tk gs' m' hgs F2 N2 e2
    refine k _ _ _ _ hgs F2 N2 ?_
    intro y h1 h2 h3
    rw [e2 y h2 h3]
    simp only [if_neg h1, kst_one mw]
  · have hne : ((i : Int) != (j : Int)) = true := by simp; omega
    rw [decide_eq_true hij, Bool.true_and] at hlt hcut
    cases hin : decide ((i : Int) ∈ ways.getD j []) with
    | true =>
      rw [hin] at hlt hcut
      k_steps
      unfold Stop
      refine' t_tail (D := D) (ways := ways) (fr := fr) (i := i) (j := j) Bw X T ?g1 ?g2 ho3 ho4 ho5 h5 hD hi hj ?g3 ?g4 ?g5 hp hpv hpl hpb hlx hcut ?_
      case g1 => k_asm
      case g2 => k_asm
      case g3 => exact (if_neg (by decide)).trans ((if_neg (by decide)).trans mt)
      case g4 => exact (if_neg (by decide)).trans ((if_neg (by decide)).trans mp)
      case g5 => rfl
      intro h' tk gs' m' hgs F2 N2 e2
      refine k _ _ _ _ hgs F2 N2 ?_
      intro y h1 h2 h3
      rw [e2 y h2 h3]
      simp only [if_neg h1, kst_one mw]
    | false =>
      rw [hin] at hlt hcut
      k_steps
      unfold Stop
      refine' t_tail (D := D) (ways := ways) (fr := fr) (i := i) (j := j) Bw X T ?g1 ?g2 ho3 ho4 ho5 h5 hD hi hj ?g3 ?g4 ?g5 hp hpv hpl hpb hlx hcut ?_
      case g1 => k_asm
      case g2 => k_asm
      case g3 => exact (if_neg (by decide)).trans ((if_neg (by decide)).trans mt)
      case g4 => exact (if_neg (by decide)).trans ((if_neg (by decide)).trans mp)
      case g5 => rfl
      intro h' tk gs' m' hgs F2 N2 e2
      refine k _ _ _ _ hgs F2 N2 ?_
      intro y h1 h2 h3
      rw [e2 y h2 h3]
      simp only [if_neg h1, kst_one mw]
end Mine
end
theorem Mine.clean40 : True := by
  k_with_none
  trivial
section
open PySem PySem.W PySem.Spec PySem.Calls PyProof.Rows
set_option maxHeartbeats 800000
namespace Mine
theorem regM17d : (fun (_ : OpenLaw) (_ : Params → Frag) => True) PySem.Challenge.rw_sn0085_01 Mine.K := by
  k_fill
  exact trivial

noncomputable def NestJ (L : Addr) (R : Led) (P : Option Value → Prop) (X : Led) (gs0 : Array GenState) (m0 : Str → Option Value) (_i : Nat) (m' : Str → Option Value) (nx : Led) (gs : Array GenState) : Prop :=
  (AllBare gs0 → AllBare gs) ∧ ∃ (o3 o4 : Obj) (v3 v4 : Option Value), nx = X ++ (L + 1 + 1 + 1, o3) :: (L + 1 + 1 + 1 + 1, o4) :: R ∧ o3.data = .cell v3 ∧ P v3 ∧ o4.data = .cell v4 ∧ ∀ y, y ≠ Str.ofString "hangs" → y ≠ Str.ofString "taken" → y ≠ Str.ofString "between" → m' y = m0 y
theorem seg17 {w : World} {p : Program} {loose : List Str} {mean : ExcName → Option Value} {mg mb : Str → Option Value} {L fa D pa wa : Addr} {h₀ : Heap} {s : Shared} {m : Str → Option Value} {R : Led} {Q : Flow → Shared → Prop} {E : Value → Shared → Prop} {rest : List Stmt} {ways : List (List Int)} {fr : List Nat} {tx : Tok} {o3 o4 o5 : Obj} {v3 v4 : Option Value} {lx : List Nat} {ps : List Int} {pv : List Value} {pk : Nat}
    (Bw : Below callerA h₀ [] h₀) (X : (Mine.K w.params).In h₀) (T : Top p loose mean mg mb h₀) (F : Fr h₀ L s.heap m) (N : News h₀ L s.heap ((L + 1 + 1 + 1, o3) :: (L + 1 + 1 + 1 + 1, o4) :: R)) (ho3 : o3.data = .cell v3) (ho4 : o4.data = .cell v4) (ho5 : o5.data = .cell (some (.ref D))) (h5 : (L + 1 + 1 + 1 + 1 + 1, o5) ∈ R) (hoff : ∀ p ∈ R, p.1 ≠ L + 1 + 1 + 1 ∧ p.1 ≠ L + 1 + 1 + 1 + 1) (hE : PassesOwn (model prog w) (lawA L fa) (lawEnv L fa) E)
    (hD : DatIn R (.ref D) (lessD fr ways)) (mw : m (Str.ofString "ways") = some (.ref wa)) (mt : m (Str.ofString "text") = some (.str ⟨lx.toArray⟩ tx)) (mp : m (Str.ofString "places") = some (.ref pa)) (hp : (pa, listOf pv.toArray pk) ∈ R) (hpv : IntsAre pv ps) (hpl : ps.length = 6) (hpb : ∀ k : Nat, k < 6 → 0 ≤ ps.getD k 0 ∧ ps.getD k 0 ≤ 1000) (hlx : (⟨lx.toArray⟩ : Str).length ≤ sizeLine)
    (hW : DatIn R (.ref wa) (.list (waysD ways))) (hwl : ways.length = 6) (hws : ∀ x ∈ ways, x.length ≤ 6)
    (hlt : ∀ i j : Nat, i < 6 → j < 6 → ltW fr ways i j = hangsB ways i j)
    (hcut : ∀ i j : Nat, i < j → j < 6 → (∀ c, c ∈ (cutAt lx ps i j).cps → c ≠ 34 ∧ c ≠ 92) ∧ parenW 0 (cutAt lx ps i j).cps.toList = (hangsB ways i j && decide (betwN fr ways i j 6 = [])))
    (k : ∀ (o3' o4' : Obj) (v3' v4' : Option Value) (h' : Heap) (tk : Nat) (gs' : Array GenState) (m' : Str → Option Value), (AllBare s.gens → AllBare gs') → Fr h₀ L h' m' → News h₀ L h' ((L + 1 + 1 + 1, o3') :: (L + 1 + 1 + 1 + 1, o4') :: R) → o3'.data = .cell v3' → o4'.data = .cell v4' → (∀ y, y ≠ Str.ofString "hangs" → y ≠ Str.ofString "taken" → y ≠ Str.ofString "between" → m' y = m y) → wpAny (model prog w) (lawA L fa) (execs rest (lawEnv L fa)) Q E { s with heap := h', gens := gs', toks := tk }) :
    wpAny (model prog w) (lawA L fa) (execs (lawB17 :: rest) (lawEnv L fa)) Q E s := by
  k_with_none
  (k_with "mine all" => first | assumption | (refine' List.forall_mem_cons.mpr ⟨?a, ?b⟩; (case a => k_ne); (case b => k_all)))
  (k_with "exec For Name Call cons nil" => (k_here; refine stop ?_))
  (k_with "pyIter ref" => (k_here; refine stop ?_))
  (k_with "execs cons" => (k_here; (with_reducible show wpAny _ _ (execs (Stmt.Assign [Expr.Name (Str.ofString "hangs") _] _ _ :: _) _) _ _ _); refine stop ?_))
  unfold lawA lawEnv
  conv in (occs := *) lawB17 => all_goals whnf
  conv in (occs := *) lawSc => all_goals whnf
  k_steps
  unfold Stop
  rename Fr _ _ _ _ => lF'
  refine For_S lF' ?_ (hE := hE)
  k_steps
  unfold Stop
  rename_i u1 u2 u3 hr F2 N2 hk2
  refine upS (NestJ L R (fun _ => True) [] s.gens m) rfl F2 N2 hr (by decide) (by decide) (by decide) (by decide) ⟨fun q => q, o3, o4, v3, v4, rfl, ho3, trivial, ho4, fun y _ _ _ => rfl⟩ ?_ ?_
  · rintro i ti m₁ news₁ h₃ tk₃ gs₃ q hi6 ⟨hgs, o3', o4', v3', v4', rfl, ho3', -, ho4', e3⟩ hq F₃ N₃
    rw [List.nil_append] at hq N₃
    clear F2 N2 hr hk2
    obtain ⟨I, oI⟩ := q
    have hI3 : @Ne Nat (L + 1 + 1 + 1) I := hq _ (.head _)
    have hI4 : @Ne Nat (L + 1 + 1 + 1 + 1) I := hq _ (.tail _ (.head _))
    have hIR : ∀ p ∈ R, p.1 ≠ I := fun p hp => hq p (.tail _ (.tail _ hp))
    have hR3 : ∀ p ∈ R, p.1 ≠ L + 1 + 1 + 1 := fun p hp => (hoff p hp).1
    clear hq
    rw [Int.zero_add]
    have hi6' : i < 6 := by omega
    k_steps
    unfold Stop
    rename Fr _ _ _ _ => lF'
    refine For_S lF' ?_ (hE := by passes_own)
    k_steps
    unfold Stop
    rename_i u4 u5 u6 hr F2 N2 hk2
    refine upS (NestJ L R (fun v => v = some (.int (i : Nat) ti)) [(I, oI)] s.gens m) rfl F2 N2 hr (by decide) (by decide) (by decide) (by decide) ⟨hgs, _, o4', _, v4', rfl, by assumption, rfl, ho4', e3⟩ ?_ ?_
    · rintro j tj m₂ news₂ h₅ tk₅ gs₅ q2 hj6 ⟨hgs2, o3n, o4n, v3n, v4n, rfl, ho3n, rfl, ho4n, e4⟩ hq2 F₅ N₅
      clear F2 N2 hr hk2
      obtain ⟨I2, oI2⟩ := q2
      have hI2I : @Ne Nat I I2 := hq2 _ (.head _)
      have hI23 : @Ne Nat (L + 1 + 1 + 1) I2 := hq2 _ (.tail _ (.head _))
      have hI24 : @Ne Nat (L + 1 + 1 + 1 + 1) I2 := hq2 _ (.tail _ (.tail _ (.head _)))
      have hI2R : ∀ p ∈ R, p.1 ≠ I2 := fun p hp => hq2 p (.tail _ (.tail _ (.tail _ hp)))
      have hR4 : ∀ p ∈ R, p.1 ≠ L + 1 + 1 + 1 + 1 := fun p hp => (hoff p hp).2
      have N₆ : News h₀ L h₅ ((I2, oI2) :: (I, oI) :: (L + 1 + 1 + 1, o3n) :: (L + 1 + 1 + 1 + 1, o4n) :: R) := N₅
      clear hq2 N₅ hR3
      rw [Int.zero_add]
      have hj6' : j < 6 := by omega
      k_steps
      unfold Stop
      rename_i hoO
      rename News _ _ _ _ => N₇
      refine' t_body (D := D) (ways := ways) (fr := fr) (i := i) (j := j) (R := (I2, oI2) :: (I, oI) :: R) Bw X T ?g1 ?g2 ho3n (by assumption) ho5 (.tail _ (.tail _ h5)) (hD.mono fun p hp => .tail _ (.tail _ hp)) hi6' hj6' ?g3 ?g4 ?g5 (.tail _ (.tail _ hp)) hpv hpl hpb hlx (hW.mono fun p hp => .tail _ (.tail _ hp)) hwl hws (hlt i j hi6' hj6') (fun q => hcut i j q hj6') ?_
      case g1 => k_asm
      case g2 =>
        intro p hp
        rcases List.mem_cons.mp hp with rfl | hp
        · exact N₇ _ (.tail _ (.tail _ (.head _)))
        rcases List.mem_cons.mp hp with rfl | hp
        · exact N₇ _ (.tail _ (.tail _ (.tail _ (.head _))))
        rcases List.mem_cons.mp hp with rfl | hp
        · exact N₇ _ (.head _)
        rcases List.mem_cons.mp hp with rfl | hp
        · exact N₇ _ (.tail _ (.head _))
        · exact N₇ _ (.tail _ (.tail _ (.tail _ (.tail _ hp))))
      case g3 => exact (e4 _ (by decide) (by decide) (by decide)).trans mw
      case g4 => exact (e4 _ (by decide) (by decide) (by decide)).trans mt
      case g5 => exact (e4 _ (by decide) (by decide) (by decide)).trans mp
      intro h' tk gs' m' hgs' F₈ N₈ e8
      refine wpAny_execs_nil ?_
      refine ⟨_, _, _, _, [(I, oI)] ++ (L + 1 + 1 + 1, o3n) :: (L + 1 + 1 + 1 + 1, _) :: R, rfl, F₈, ?n1, ?n2, fun q => hgs' (hgs2 q), o3n, _, _, _, rfl, ho3n, rfl, by assumption, fun y h1 h2 h3 => (e8 y h1 h2 h3).trans (e4 y h1 h2 h3)⟩
      case n1 =>
        intro p hp
        rcases List.mem_cons.mp hp with rfl | hp
        · exact N₈ _ (.tail _ (.tail _ (.head _)))
        rcases List.mem_cons.mp hp with rfl | hp
        · exact N₈ _ (.tail _ (.tail _ (.tail _ (.head _))))
        rcases List.mem_cons.mp hp with rfl | hp
        · exact N₈ _ (.head _)
        rcases List.mem_cons.mp hp with rfl | hp
        · exact N₈ _ (.tail _ (.head _))
        · exact N₈ _ (.tail _ (.tail _ (.tail _ (.tail _ hp))))
      case n2 =>
        intro p hp
        rcases List.mem_cons.mp hp with rfl | hp
        · exact hI2I
        rcases List.mem_cons.mp hp with rfl | hp
        · exact hI23
        rcases List.mem_cons.mp hp with rfl | hp
        · exact hI24
        · exact hI2R p hp
    · rintro m₂ news₂ h₅ tk₅ gs₅ ⟨hgs2, o3n, o4n, v3n, v4n, rfl, ho3n, rfl, ho4n, e4⟩ F₅ N₅
      refine wpAny_execs_nil ?_
      refine wpAny_execs_nil ?_
      have N₆ : News h₀ L h₅ ((I, oI) :: (L + 1 + 1 + 1, o3n) :: (L + 1 + 1 + 1 + 1, o4n) :: R) := N₅
      refine ⟨_, _, _, _, (L + 1 + 1 + 1, o3n) :: (L + 1 + 1 + 1 + 1, o4n) :: R, rfl, F₅, N₆, ?n2, hgs2, o3n, o4n, _, v4n, rfl, ho3n, trivial, ho4n, e4⟩
      case n2 =>
        intro p hp
        rcases List.mem_cons.mp hp with rfl | hp
        · exact hI3
        rcases List.mem_cons.mp hp with rfl | hp
        · exact hI4
        · exact hIR p hp
  · rintro m₂ news₂ h₅ tk₅ gs₅ ⟨hgs2, o3n, o4n, v3n, v4n, rfl, ho3n, -, ho4n, e4⟩ F₅ N₅
    refine wpAny_execs_nil ?_
    exact k o3n o4n v3n v4n h₅ tk₅ gs₅ m₂ hgs2 F₅ N₅ ho3n ho4n e4
end Mine
end
theorem Mine.clean41 : True := by
  k_with_none
  trivial
section
open PySem PySem.W PySem.Spec PySem.Calls PyProof.Rows
set_option maxHeartbeats 2000000
namespace Mine
theorem regJoin : (fun (_ : OpenLaw) (_ : Params → Frag) => True) PySem.Challenge.rw_sn0085_01 Mine.K := by
  k_fill
  exact trivial
section
variable {h₀ h : Heap} {L : Addr} {x : Addr × Obj} {l l' : Led} {a : Addr}
theorem nw_c (a : News h₀ L h [x]) (b : News h₀ L h l) : News h₀ L h (x :: l) := fun p hp => (List.mem_cons.mp hp).elim (fun e => a p (e ▸ .head _)) (b p)
theorem nw_a (a : News h₀ L h l) (b : News h₀ L h l') : News h₀ L h (l ++ l') := fun p hp => (List.mem_append.mp hp).elim (a p) (b p)
theorem nw_h (N : News h₀ L h (x :: l)) : News h₀ L h [x] := fun p hp => N p (List.mem_singleton.mp hp ▸ .head _)
theorem nw_t (N : News h₀ L h (x :: l)) : News h₀ L h l := N.tail'
theorem nw_l (N : News h₀ L h (l ++ l')) : News h₀ L h l := fun p hp => N p (List.mem_append_left _ hp)
theorem nw_r (N : News h₀ L h (l ++ l')) : News h₀ L h l' := fun p hp => N p (List.mem_append_right _ hp)
theorem of_n : ∀ p ∈ ([] : Led), p.1 ≠ a := fun _ h => nomatch h
theorem of_c (e : @Ne Nat x.1 a) (b : ∀ p ∈ l, p.1 ≠ a) : ∀ p ∈ x :: l, p.1 ≠ a := fun p hp => (List.mem_cons.mp hp).elim (fun q => q ▸ e) (b p)
theorem of_a (b : ∀ p ∈ l, p.1 ≠ a) (c : ∀ p ∈ l', p.1 ≠ a) : ∀ p ∈ l ++ l', p.1 ≠ a := fun p hp => (List.mem_append.mp hp).elim (b p) (c p)
theorem ne_up {L i j : Nat} (h : (i == j) = false) : L + i ≠ L + j := fun e => by
  have : i = j := by omega
  subst this
  simp at h
theorem ne_lo {L k i : Nat} (h : k < L) : k ≠ L + i := PySem.W.ktu_ne i h
theorem ne_hi {L i j a : Nat} (h : L + i < a) (hj : Nat.ble j i = true) : a ≠ L + j := by have := Nat.le_of_ble_eq_true hj; omega
theorem ne_lo2 {L k i a : Nat} (h : L + i < a) (h2 : k < L) : a ≠ k := by omega
end
/-- the plain facts that the law's walk asks of a choice of six signs, of the numbers' sum's rest and of the front -/
structure LawFacts (qs : List (Nat × Str)) (ways : List (List Int)) (b : Int) (fr : List Nat) : Prop where
  hwl : ways.length = 6
  hws : ∀ x ∈ ways, x.length ≤ 6
  hwn : ∀ x ∈ ways, x ≠ []
  hwr : ∀ x ∈ ways, ∀ y ∈ x, 0 ≤ y ∧ y < 6
  hfl : ∀ x ∈ ways, 0 < flagN b x ∧ flagN b x < 2 ^ 32
  hlen : ∀ j : Nat, ((ways.map (flagStr b)).getD j (Str.ofString "")).length ≤ 5000
  hpar : ∀ i, i < 6 → 2 ≤ (ways.getD i []).length → 0 ≤ (ways.getD i []).getD ((ways.getD i []).length - 2) 0 ∧ (ways.getD i []).getD ((ways.getD i []).length - 2) 0 < 6
  hyes : ∀ i : Nat, i < 6 → 1 < (ways.getD i []).length → (ways.map (flagStr b)).getD (i : Int).toNat (Str.ofString "") = (ways.map (flagStr b)).getD ((ways.getD i []).getD ((ways.getD i []).length - 2) 0).toNat (Str.ofString "") ++ Str.ofString ", " ++ word (b + i)
  hno : ∀ i : Nat, i < 6 → ¬ 1 < (ways.getD i []).length → (ways.map (flagStr b)).getD (i : Int).toNat (Str.ofString "") = Str.ofString "" ++ word (b + i)
  hfr : fr.length ≤ 2
  hlead : ∀ i : Nat, i < 6 → (leadL fr ways i).length ≤ 20 ∧ (∀ c ∈ leadL fr ways i, c = 32 ∨ c = 9) ∧ Sane (wsOf (leadL fr ways i)) ∧ Sane (wsOf (leadL fr ways i ++ [32])) ∧ lessW (wsOf (leadL fr ways i)) (wsOf (leadL fr ways i ++ [32])) = true
  hlt : ∀ i j : Nat, i < 6 → j < 6 → ltW fr ways i j = hangsB ways i j
  hcut : ∀ i j : Nat, i < j → j < 6 → (∀ c, c ∈ (cutAt (textAt ways qs 6 ++ List.replicate ((ways.getD 5 []).length) 41) ((List.range 6).map fun j => (placeAt ways qs j : Int)) i j).cps → c ≠ 34 ∧ c ≠ 92) ∧ parenW 0 (cutAt (textAt ways qs 6 ++ List.replicate ((ways.getD 5 []).length) 41) ((List.range 6).map fun j => (placeAt ways qs j : Int)) i j).cps.toList = (hangsB ways i j && decide (betwN fr ways i j 6 = []))
  hok : ∀ i : Nat, i < 6 → LevOk (wsOf (leadL fr ways i))
  hs1 : ([0, 1, 2, 3, 4, 5] : List Int).Pairwise fun x y => levT 1 (wsOf (leadL fr ways x.toNat)) < levT 1 (wsOf (leadL fr ways y.toNat))
  hrp : (rightW ways 7 []).Perm [0, 1, 2, 3, 4, 5]
  hs12 : (rightW ways 7 []).Pairwise fun x y => levT 12 (wsOf (leadL fr ways x.toNat)) < levT 12 (wsOf (leadL fr ways y.toNat))

noncomputable def waysOf (qs : List (Nat × Str)) : List (List Int) := (waysAt (qs.map fun q => (q.2.length : Int)) 6).1
theorem law_walk {w : World} {p : Program} {loose : List Str} {mean : ExcName → Option Value} {mg mb : Str → Option Value} {L fa la : Addr} {h₀ : Heap} {s : Shared} {m : Str → Option Value} {Q : Flow → Shared → Prop} {E : Value → Shared → Prop} {ws : List Int} {vs : List Value} {o1 o2 o3 o4 o5 o6 : Obj} {v1 v2 v3 v4 v5 v6 : Option Value}
    (Bw : Below callerA h₀ [] h₀) (X : (Mine.K w.params).In h₀) (T : Top p loose mean mg mb h₀) (hC : CodeHd h₀ 219 217) (F : Fr h₀ L s.heap m) (hm : m (Str.ofString "script") = some (.ref la)) (hl : h₀.IsList la vs.toArray) (hI : IntsAre vs ws) (hw : ws.length ≤ 63)
    (N : News h₀ L s.heap [(L + 1 + 1 + 1 + 1 + 1 + 1, o6), (L + 1 + 1 + 1 + 1 + 1, o5), (L + 1 + 1 + 1 + 1, o4), (L + 1 + 1 + 1, o3), (L + 1 + 1, o2), (L + 1, o1), (217, tabObj #[])]) (h217 : 217 < L)
    (ho1 : o1.data = .cell v1) (ho2 : o2.data = .cell v2) (ho3 : o3.data = .cell v3) (ho4 : o4.data = .cell v4) (ho5 : o5.data = .cell v5) (ho6 : o6.data = .cell v6) (hE : PassesOwn (model prog w) (lawA L fa) (lawEnv L fa) E)
    (facts : ∀ (qs : List (Nat × Str)) (b S : Int), qs.length = 6 → (∀ q ∈ qs, q ∈ signs) → 0 ≤ b → b < 27 → LawFacts qs (waysOf qs) b (frontOf S))
    (k : ∀ (h' : Heap) (tk : Nat) (gs' : Array GenState) (xs : Array Value) (m' : Str → Option Value), (AllBare s.gens → AllBare gs') → Fr h₀ L h' m' → News h₀ L h' [(217, tabObj xs)] → Q (.ret (.bool true)) { s with heap := h', gens := gs', toks := tk }) :
    wpAny (model prog w) (lawA L fa) (execs [lawB0, lawB1, lawB2, lawB3, lawB4, lawB5, lawB6, lawB7, lawB8, lawB9, lawB10, lawB11, lawB12, lawB13, lawB14, lawB15, lawB16, lawB17, lawB18, lawB19] (lawEnv L fa)) Q E s := by
  have h217' : @LT.lt Nat _ 217 L := h217
  refine seg1 Bw X T hC F hm hl hI hw N fun D1 us1 n1 tl1 h1 tk1 m1 F1 N1 a1 d1 i1 e1 => ?_
  clear F N
  have em1 : m1 (Str.ofString "drawn") = some (.ref D1) := by rw [e1]; rfl
  refine seg1b Bw X T F1 N1 em1 (List.mem_append.mpr (.inl d1)) i1 (by rw [List.length_map, List.length_take]; omega) fun D2 us2 n2 tl2 h2 tk2 m2 F2 N2 a2 d2 i2 e2 => ?_
  clear F1 N1
  have em2 : m2 (Str.ofString "drawn") = some (.ref D2) := by rw [e2]; rfl
  generalize hds : (List.map (fun x : Int => x.fmod 1000000) (List.take 6 ws) ++ List.drop (List.map (fun x : Int => x.fmod 1000000) (List.take 6 ws)).length [2, 10, 12, 25, 27, 0]) = ds at i2
  have hdl : ds.length = 6 := by
    rw [← hds, List.length_append, List.length_drop, List.length_map, List.length_take]
    show _ + (6 - _) = 6
    omega
  have hdb : ∀ d ∈ ds, 0 ≤ d ∧ d < 1000000 := by
    intro d hd
    rw [← hds] at hd
    rcases List.mem_append.mp hd with hd | hd
    · obtain ⟨x, _, rfl⟩ := List.mem_map.mp hd
      exact ⟨Int.fmod_nonneg_of_pos x (by decide), Int.fmod_lt_of_pos x (by decide)⟩
    · have : d ∈ ([2, 10, 12, 25, 27, 0] : List Int) := List.mem_of_mem_drop hd
      simp only [List.mem_cons, List.not_mem_nil, or_false] at this
      rcases this with rfl | rfl | rfl | rfl | rfl | rfl <;> decide
  refine seg2 Bw X T F2 em2 N2 (List.mem_append.mpr (.inl d2)) i2 hdl (fun d hd => (hdb d hd).1) fun D3 tl3 qs h3 tk3 m3 F3 N3 a3 hqs hql hD3 e3 => ?_
  clear F2 N2
  have em3 : m3 (Str.ofString "spelled") = some (.ref D3) := by rw [e3]; rfl
  refine seg3 Bw X T F3 N3 em3 (DatIn.mono (fun p hp => List.mem_append.mpr (.inl hp)) hD3) hqs hql fun D4 us4 n4 tl4 h4 tk4 m4 F4 N4 a4 d4 i4 e4 => ?_
  clear F3 N3
  have em4 : m4 (Str.ofString "prepared") = some (.ref D4) := by rw [e4]; rfl
  have em4s : m4 (Str.ofString "spelled") = some (.ref D3) := by rw [e4]; exact em3
  refine seg4 Bw X T F4 N4 em4s em4 (DatIn.mono (fun p hp => List.mem_append.mpr (.inr (List.mem_append.mpr (.inl hp)))) hD3) (List.mem_append.mpr (.inl d4)) i4 hqs hql fun tl5 h5 tk5 m5 F5 N5 a5 e5 => ?_
  subst e5
  clear F4 N4
  refine seg5 Bw X T F5 N5 em4 (List.mem_append.mpr (.inr (List.mem_append.mpr (.inl d4)))) i4 hqs hql fun D6 tl6 h6 tk6 m6 F6 N6 a6 hD6 e6 => ?_
  clear F5 N5
  obtain ⟨f_hwl, f_hws, f_hwn, f_hwr, f_hfl, f_hlen, f_hpar, f_hyes, f_hno, f_hfr, f_hlead, f_hlt, f_hcut, f_hok, f_hs1, f_hrp, f_hs12⟩ := facts qs (ds.sum.fmod 27) ds.sum hql hqs (Int.fmod_nonneg_of_pos _ (by decide)) (Int.fmod_lt_of_pos _ (by decide))
  have f_hb : 0 ≤ ds.sum.fmod 27 ∧ ds.sum.fmod 27 < 27 := ⟨Int.fmod_nonneg_of_pos _ (by decide), Int.fmod_lt_of_pos _ (by decide)⟩
  change DatIn tl6 (.ref D6) (.list (waysD (waysOf qs))) at hD6
  generalize hways : waysOf qs = ways at *
  have b5 : ∀ q ∈ [(L + 1 + 1 + 1 + 1 + 1 + 1, o6), (L + 1 + 1 + 1 + 1 + 1, o5), (L + 1 + 1 + 1 + 1, o4), (L + 1 + 1 + 1, o3), (L + 1 + 1, o2), (L + 1, o1), (217, tabObj #[])], ∀ p ∈ tl6 ++ (tl3 ++ tl2), p.1 ≠ q.1 := fun q hq p hp => by
    rcases List.mem_append.mp hp with hp | hp
    · exact a6 q (List.mem_append_right _ (List.mem_append_right _ (List.mem_append_right _ (List.mem_append_right _ (List.mem_append_right _ hq))))) p hp
    rcases List.mem_append.mp hp with hp | hp
    · exact a3 q (List.mem_append_right _ (List.mem_append_right _ hq)) p hp
    · exact a2 q (List.mem_append_right _ hq) p hp
  have em6w : m6 (Str.ofString "ways") = some (.ref D6) := by rw [e6]; rfl
  have em6s : m6 (Str.ofString "spelled") = some (.ref D3) := by rw [e6]; exact em4s
  have em6d : m6 (Str.ofString "drawn") = some (.ref D2) := by rw [e6, e4, e3]; exact em2
  obtain ⟨R0, hR0, NR, wD, sD, dD⟩ : ∃ R0 : Led, (∀ q ∈ [(L + 1 + 1 + 1 + 1 + 1 + 1, o6), (L + 1 + 1 + 1 + 1 + 1, o5), (L + 1 + 1 + 1 + 1, o4), (L + 1 + 1 + 1, o3), (L + 1 + 1, o2), (L + 1, o1), (217, tabObj #[])], ∀ p ∈ R0, p.1 ≠ q.1) ∧ News h₀ L h6 (R0 ++ [(L + 1 + 1 + 1 + 1 + 1 + 1, o6), (L + 1 + 1 + 1 + 1 + 1, o5), (L + 1 + 1 + 1 + 1, o4), (L + 1 + 1 + 1, o3), (L + 1 + 1, o2), (L + 1, o1), (217, tabObj #[])]) ∧
      DatIn R0 (.ref D6) (.list (waysD ways)) ∧ DatIn R0 (.ref D3) (.list (qs.map pairD)) ∧ (D2, listOf us2.toArray n2) ∈ R0 :=
    ⟨tl6 ++ (tl3 ++ tl2), b5, nw_a (nw_a (nw_l N6) (nw_a (nw_l (nw_r (nw_r (nw_r N6)))) (nw_l (nw_r (nw_r (nw_r (nw_r N6))))))) (nw_r (nw_r (nw_r (nw_r (nw_r (nw_r N6)))))), DatIn.mono (fun p hp => List.mem_append.mpr (.inl hp)) hD6, DatIn.mono (fun p hp => List.mem_append.mpr (.inr (List.mem_append.mpr (.inl hp)))) hD3, List.mem_append.mpr (.inr (List.mem_append.mpr (.inr d2)))⟩
  clear N6 hD6 hD3 d1 d2 d4 a1 a2 a3 a4 a5 a6 b5 i1 i4 e1 e2 e3 e4 em1 em2 em3 em4 em4s
  clear e6
  have hR1 : ∀ p ∈ R0, p.1 ≠ L + 1 ∧ p.1 ≠ L + 1 + 1 ∧ p.1 ≠ L + 1 + 1 + 1 ∧ p.1 ≠ L + 1 + 1 + 1 + 1 ∧ p.1 ≠ L + 1 + 1 + 1 + 1 + 1 ∧ p.1 ≠ L + 1 + 1 + 1 + 1 + 1 + 1 ∧ p.1 ≠ 217 := fun p hp =>
    ⟨hR0 (L + 1, o1) (.tail _ (.tail _ (.tail _ (.tail _ (.tail _ (.head _)))))) p hp, hR0 (L + 1 + 1, o2) (.tail _ (.tail _ (.tail _ (.tail _ (.head _))))) p hp, hR0 (L + 1 + 1 + 1, o3) (.tail _ (.tail _ (.tail _ (.head _)))) p hp, hR0 (L + 1 + 1 + 1 + 1, o4) (.tail _ (.tail _ (.head _))) p hp, hR0 (L + 1 + 1 + 1 + 1 + 1, o5) (.tail _ (.head _)) p hp, hR0 (L + 1 + 1 + 1 + 1 + 1 + 1, o6) (.head _) p hp, hR0 (217, tabObj #[]) (.tail _ (.tail _ (.tail _ (.tail _ (.tail _ (.tail _ (.head _))))))) p hp⟩
  clear hR0
  have NA : News h₀ L h6 ((L + 1, o1) :: (R0 ++ [(L + 1 + 1 + 1 + 1 + 1 + 1, o6), (L + 1 + 1 + 1 + 1 + 1, o5), (L + 1 + 1 + 1 + 1, o4), (L + 1 + 1 + 1, o3), (L + 1 + 1, o2), (217, tabObj #[])])) := by
    have T := nw_r NR
    exact nw_c (nw_h (nw_t (nw_t (nw_t (nw_t (nw_t T)))))) (nw_a (nw_l NR) (nw_c (nw_h T) (nw_c (nw_h (nw_t T)) (nw_c (nw_h (nw_t (nw_t T))) (nw_c (nw_h (nw_t (nw_t (nw_t T)))) (nw_c (nw_h (nw_t (nw_t (nw_t (nw_t T))))) (nw_t (nw_t (nw_t (nw_t (nw_t (nw_t T))))))))))))
  clear NR
  refine seg678 Bw X T F6 NA ho1 (of_a (fun p hp => (hR1 p hp).1) (of_c (ne_up (i := 6) (j := 1) rfl) (of_c (ne_up (i := 5) (j := 1) rfl) (of_c (ne_up (i := 4) (j := 1) rfl) (of_c (ne_up (i := 3) (j := 1) rfl) (of_c (ne_up (i := 2) (j := 1) rfl) (of_c (ne_lo (i := 1) h217) of_n))))))) hE em6w em6s (DatIn.mono (fun p hp => List.mem_append.mpr (.inl hp)) wD) (DatIn.mono (fun p hp => List.mem_append.mpr (.inl hp)) sD) f_hwl hql f_hws fun nx h8 tk8 m8 F8 N8 J8 => ?_
  obtain ⟨_, on8, v8, pl, pv, pk, t8, rfl, ho8, hpl1, hpl2, hpv, mt8, mp8, me8⟩ := J8
  clear NA F6
  have em8w : m8 (Str.ofString "ways") = some (.ref D6) := (me8 _ (by decide) (by decide)).trans em6w
  have em8d : m8 (Str.ofString "drawn") = some (.ref D2) := (me8 _ (by decide) (by decide)).trans em6d
  clear me8 em6w em6s em6d
  have hpl3 : @Ne Nat pl (L + 1 + 1) ∧ @Ne Nat pl (L + 1 + 1 + 1) ∧ @Ne Nat pl (L + 1 + 1 + 1 + 1) ∧ @Ne Nat pl (L + 1 + 1 + 1 + 1 + 1) ∧ @Ne Nat pl (L + 1 + 1 + 1 + 1 + 1 + 1) ∧ @Ne Nat pl 217 :=
    ⟨Ne.symm (hpl2 (L + 1 + 1, o2) (List.mem_append_right _ (.tail _ (.tail _ (.tail _ (.tail _ (.head _))))))), Ne.symm (hpl2 (L + 1 + 1 + 1, o3) (List.mem_append_right _ (.tail _ (.tail _ (.tail _ (.head _)))))), Ne.symm (hpl2 (L + 1 + 1 + 1 + 1, o4) (List.mem_append_right _ (.tail _ (.tail _ (.head _))))), Ne.symm (hpl2 (L + 1 + 1 + 1 + 1 + 1, o5) (List.mem_append_right _ (.tail _ (.head _)))), Ne.symm (hpl2 (L + 1 + 1 + 1 + 1 + 1 + 1, o6) (List.mem_append_right _ (.head _))), Ne.symm (hpl2 (217, tabObj #[]) (List.mem_append_right _ (.tail _ (.tail _ (.tail _ (.tail _ (.tail _ (.head _))))))))⟩
  clear hpl2
  obtain ⟨R1, hR2, NR, wD, sD, dD, pD⟩ : ∃ R1 : Led, (∀ p ∈ R1, p.1 ≠ L + 1 ∧ p.1 ≠ L + 1 + 1 ∧ p.1 ≠ L + 1 + 1 + 1 ∧ p.1 ≠ L + 1 + 1 + 1 + 1 ∧ p.1 ≠ L + 1 + 1 + 1 + 1 + 1 ∧ p.1 ≠ L + 1 + 1 + 1 + 1 + 1 + 1 ∧ p.1 ≠ 217) ∧ News h₀ L h8 ((L + 1 + 1, o2) :: (R1 ++ [(L + 1, on8), (L + 1 + 1 + 1 + 1 + 1 + 1, o6), (L + 1 + 1 + 1 + 1 + 1, o5), (L + 1 + 1 + 1 + 1, o4), (L + 1 + 1 + 1, o3), (217, tabObj #[])])) ∧
      DatIn R1 (.ref D6) (.list (waysD ways)) ∧ DatIn R1 (.ref D3) (.list (qs.map pairD)) ∧ (D2, listOf us2.toArray n2) ∈ R1 ∧ (pl, listOf pv.toArray pk) ∈ R1 :=
    ⟨(pl, listOf pv.toArray pk) :: R0, fun p hp => (List.mem_cons.mp hp).elim (fun e => by subst e; exact ⟨hpl1, hpl3⟩) (hR1 p), (by
      have T := nw_r (nw_t (nw_t N8))
      exact nw_c (nw_h (nw_t (nw_t (nw_t (nw_t T))))) (nw_a (nw_c (nw_h N8) (nw_l (nw_t (nw_t N8)))) (nw_c (nw_h (nw_t N8)) (nw_c (nw_h T) (nw_c (nw_h (nw_t T)) (nw_c (nw_h (nw_t (nw_t T))) (nw_c (nw_h (nw_t (nw_t (nw_t T)))) (nw_t (nw_t (nw_t (nw_t (nw_t T)))))))))))), DatIn.mono (fun p hp => .tail _ hp) wD, DatIn.mono (fun p hp => .tail _ hp) sD, .tail _ dD, .head _⟩
  clear N8 hR1 hpl1 hpl3
  refine seg9 Bw X T F8 NR em8w mt8 (DatIn.mono (fun p hp => .tail _ (List.mem_append.mpr (.inl hp))) wD) f_hwl f_hws (Nat.le_trans (textAt_len ways qs f_hws 6) (by decide)) fun t9 h9 tk9 m9 F9 N9 e9 => ?_
  have em9w : m9 (Str.ofString "ways") = some (.ref D6) := by rw [e9]; exact em8w
  have em9d : m9 (Str.ofString "drawn") = some (.ref D2) := by rw [e9]; exact em8d
  have em9p : m9 (Str.ofString "places") = some (.ref pl) := by rw [e9]; exact mp8
  have em9t : m9 (Str.ofString "text") = some (.str ⟨(textAt ways qs 6 ++ List.replicate ((ways.getD 5 []).length) 41).toArray⟩ t9) := by rw [e9]; rfl
  clear e9 mp8 mt8 em8w em8d F8 NR
  refine seg10 Bw X T F9 N9 ho2 (of_a (fun p hp => (hR2 p hp).2.1) (of_c (ne_up (i := 1) (j := 2) rfl) (of_c (ne_up (i := 6) (j := 2) rfl) (of_c (ne_up (i := 5) (j := 2) rfl) (of_c (ne_up (i := 4) (j := 2) rfl) (of_c (ne_up (i := 3) (j := 2) rfl) (of_c (ne_lo (i := 2) h217) of_n))))))) em9d (List.mem_append.mpr (.inl dD)) i2 hdl hdb fun ob tb h10 tk10 m10 F10 N10 hob e10 => ?_
  subst e10
  clear N9 F9
  refine seg11 Bw X T F10 N10 hob em9w (DatIn.mono (fun p hp => List.mem_append.mpr (.inl hp)) wD) f_hwl f_hws f_hb f_hwr f_hfl fun D11 us11 n11 tl11 h11 tk11 m11 F11 N11 a11 d11 i11 e11 => ?_
  have em11w : m11 (Str.ofString "ways") = some (.ref D6) := by rw [e11]; exact em9w
  have em11d : m11 (Str.ofString "drawn") = some (.ref D2) := by rw [e11]; exact em9d
  have em11p : m11 (Str.ofString "places") = some (.ref pl) := by rw [e11]; exact em9p
  have em11t : m11 (Str.ofString "text") = some (.str ⟨(textAt ways qs 6 ++ List.replicate ((ways.getD 5 []).length) 41).toArray⟩ t9) := by rw [e11]; exact em9t
  have em11f : m11 (Str.ofString "flags") = some (.ref D11) := by rw [e11]; rfl
  clear e11 em9w em9d em9p em9t F10 N10
  obtain ⟨R2, hR3, NR, wD, dD, pD, gD⟩ : ∃ R2 : Led, (∀ p ∈ R2, p.1 ≠ L + 1 ∧ p.1 ≠ L + 1 + 1 ∧ p.1 ≠ L + 1 + 1 + 1 ∧ p.1 ≠ L + 1 + 1 + 1 + 1 ∧ p.1 ≠ L + 1 + 1 + 1 + 1 + 1 ∧ p.1 ≠ L + 1 + 1 + 1 + 1 + 1 + 1 ∧ p.1 ≠ 217) ∧ News h₀ L h11 ((L + 1, on8) :: (L + 1 + 1, ob) :: (R2 ++ [(L + 1 + 1 + 1 + 1 + 1 + 1, o6), (L + 1 + 1 + 1 + 1 + 1, o5), (L + 1 + 1 + 1 + 1, o4), (L + 1 + 1 + 1, o3), (217, tabObj #[])])) ∧
      DatIn R2 (.ref D6) (.list (waysD ways)) ∧ (D2, listOf us2.toArray n2) ∈ R2 ∧ (pl, listOf pv.toArray pk) ∈ R2 ∧ (D11, listOf us11.toArray n11) ∈ R2 :=
    ⟨tl11 ++ R1, fun p hp => (List.mem_append.mp hp).elim (fun hp => ⟨a11 (L + 1, on8) (.tail _ (List.mem_append_right _ (.head _))) p hp, a11 (L + 1 + 1, ob) (.head _) p hp, a11 (L + 1 + 1 + 1, o3) (.tail _ (List.mem_append_right _ (.tail _ (.tail _ (.tail _ (.tail _ (.head _))))))) p hp, a11 (L + 1 + 1 + 1 + 1, o4) (.tail _ (List.mem_append_right _ (.tail _ (.tail _ (.tail _ (.head _)))))) p hp, a11 (L + 1 + 1 + 1 + 1 + 1, o5) (.tail _ (List.mem_append_right _ (.tail _ (.tail _ (.head _))))) p hp, a11 (L + 1 + 1 + 1 + 1 + 1 + 1, o6) (.tail _ (List.mem_append_right _ (.tail _ (.head _)))) p hp, a11 (217, tabObj #[]) (.tail _ (List.mem_append_right _ (.tail _ (.tail _ (.tail _ (.tail _ (.tail _ (.head _)))))))) p hp⟩) (hR2 p), (by
      have B := nw_r N11
      have T := nw_r (nw_t B)
      exact nw_c (nw_h T) (nw_c (nw_h B) (nw_a (nw_a (nw_l N11) (nw_l (nw_t B))) (nw_t T)))), DatIn.mono (fun p hp => List.mem_append.mpr (.inr hp)) wD, List.mem_append.mpr (.inr dD), List.mem_append.mpr (.inr pD), List.mem_append.mpr (.inl d11)⟩
  clear N11 a11 hR2 sD d11
  refine seg12 Bw X T F11 NR ho8 hob (of_a (fun p hp => (hR3 p hp).1) (of_c (ne_up (i := 6) (j := 1) rfl) (of_c (ne_up (i := 5) (j := 1) rfl) (of_c (ne_up (i := 4) (j := 1) rfl) (of_c (ne_up (i := 3) (j := 1) rfl) (of_c (ne_lo (i := 1) h217) of_n)))))) hE em11w em11f (DatIn.mono (fun p hp => List.mem_append.mpr (.inl hp)) wD) f_hwl f_hws f_hb (List.mem_append.mpr (.inl gD)) i11 f_hlen f_hpar f_hyes f_hno fun nx12 h12 tk12 m12 F12 N12 J12 => ?_
  obtain ⟨_, on12, v12, rfl, ho12, me12⟩ := J12
  have em12w : m12 (Str.ofString "ways") = some (.ref D6) := (me12 _ (by decide)).trans em11w
  have em12d : m12 (Str.ofString "drawn") = some (.ref D2) := (me12 _ (by decide)).trans em11d
  have em12p : m12 (Str.ofString "places") = some (.ref pl) := (me12 _ (by decide)).trans em11p
  have em12t : m12 (Str.ofString "text") = some (.str ⟨(textAt ways qs 6 ++ List.replicate ((ways.getD 5 []).length) 41).toArray⟩ t9) := (me12 _ (by decide)).trans em11t
  clear me12 em11w em11d em11p em11t em11f NR F11
  have NR : News h₀ L h12 ((L + 1 + 1 + 1 + 1 + 1 + 1, o6) :: ((L + 1, on12) :: (R2 ++ [(L + 1 + 1 + 1 + 1 + 1, o5), (L + 1 + 1 + 1 + 1, o4), (L + 1 + 1 + 1, o3), (217, tabObj #[])]))) := by
    have T := nw_r (nw_t (nw_t N12))
    exact nw_c (nw_h T) (nw_c (nw_h N12) (nw_a (nw_l (nw_t (nw_t N12))) (nw_t T)))
  clear N12
  refine seg13 Bw X T F12 NR ho6 (of_c (ne_up (i := 1) (j := 6) rfl) (of_a (fun p hp => (hR3 p hp).2.2.2.2.2.1) (of_c (ne_up (i := 5) (j := 6) rfl) (of_c (ne_up (i := 4) (j := 6) rfl) (of_c (ne_up (i := 3) (j := 6) rfl) (of_c (ne_lo (i := 6) h217) of_n)))))) em12d (.tail _ (List.mem_append.mpr (.inl dD))) i2 fun D13 ol13 t13 h13 tk13 m13 F13 N13 ho13 a13 e13 => ?_
  have em13w : m13 (Str.ofString "ways") = some (.ref D6) := by rw [e13]; exact em12w
  have em13p : m13 (Str.ofString "places") = some (.ref pl) := by rw [e13]; exact em12p
  have em13t : m13 (Str.ofString "text") = some (.str ⟨(textAt ways qs 6 ++ List.replicate ((ways.getD 5 []).length) 41).toArray⟩ t9) := by rw [e13]; exact em12t
  have em13f : m13 (Str.ofString "front") = some (.str ⟨(frontOf ds.sum).toArray⟩ t13) := by rw [e13]; rfl
  clear e13 em12w em12d em12p em12t NR F12
  have NR : News h₀ L h13 ((D13, listOf (List.toArray []) 0) :: (L + 1, on12) :: (L + 1 + 1 + 1 + 1 + 1 + 1, ol13) :: (R2 ++ [(L + 1 + 1 + 1 + 1 + 1, o5), (L + 1 + 1 + 1 + 1, o4), (L + 1 + 1 + 1, o3), (217, tabObj #[])])) := nw_c (nw_h N13) (nw_c (nw_h (nw_t (nw_t N13))) (nw_c (nw_h (nw_t N13)) (nw_t (nw_t (nw_t N13)))))
  clear N13
  refine seg15 Bw X T F13 NR ho12 ho13 (a13 _ (.head _)) (fun p hp => ⟨Nat.ne_of_lt (a13 p (.tail _ (.tail _ hp))), of_a (fun p hp => (hR3 p hp).1) (of_c (ne_up (i := 5) (j := 1) rfl) (of_c (ne_up (i := 4) (j := 1) rfl) (of_c (ne_up (i := 3) (j := 1) rfl) (of_c (ne_lo (i := 1) h217) of_n)))) p hp⟩) hE em13w em13f (DatIn.mono (fun p hp => List.mem_append.mpr (.inl hp)) wD) f_hwl f_hws f_hfr f_hlead fun nx15 h15 tk15 m15 F15 N15 J15 => ?_
  obtain ⟨_, on15, ol15, v15, ll, lv, lk, Rl, rfl, hon15, hol15, hll15, hoff15, hRn15, hlv, hlw, me15⟩ := J15
  have em15w : m15 (Str.ofString "ways") = some (.ref D6) := (me15 _ (by decide) (by decide) (by decide)).trans em13w
  have em15p : m15 (Str.ofString "places") = some (.ref pl) := (me15 _ (by decide) (by decide) (by decide)).trans em13p
  have em15t : m15 (Str.ofString "text") = some (.str ⟨(textAt ways qs 6 ++ List.replicate ((ways.getD 5 []).length) 41).toArray⟩ t9) := (me15 _ (by decide) (by decide) (by decide)).trans em13t
  clear me15 em13w em13p em13t em13f NR F13 a13
  obtain ⟨R3, hR4, NR, wD, pD, mol, mll, hlw⟩ : ∃ R3 : Led, (∀ p ∈ R3, p.1 ≠ L + 1 + 1 + 1 ∧ p.1 ≠ L + 1 + 1 + 1 + 1 ∧ p.1 ≠ L + 1 + 1 + 1 + 1 + 1 ∧ p.1 ≠ 217) ∧ News h₀ L h15 ((L + 1 + 1 + 1 + 1 + 1, o5) :: (R3 ++ [(L + 1 + 1 + 1 + 1, o4), (L + 1 + 1 + 1, o3), (217, tabObj #[])])) ∧
      DatIn R3 (.ref D6) (.list (waysD ways)) ∧ (pl, listOf pv.toArray pk) ∈ R3 ∧ (L + 1 + 1 + 1 + 1 + 1 + 1, ol15) ∈ R3 ∧ (ll, listOf lv.toArray lk) ∈ R3 ∧ (∀ (j : Nat) (v : Value), lv[j]? = some v → WsIn w.params R3 v ⟨(leadL (frontOf ds.sum) ways j).toArray⟩ (wsOf (leadL (frontOf ds.sum) ways j))) :=
    ⟨(ll, listOf lv.toArray lk) :: (L + 1 + 1 + 1 + 1 + 1 + 1, ol15) :: (Rl ++ R2), fun p hp => by
      rcases List.mem_cons.mp hp with rfl | hp
      · have hll16 : @LT.lt Nat _ (L + 1 + 1 + 1 + 1 + 1 + 1) ll := hll15
        exact ⟨ne_hi (i := 6) (j := 3) hll16 rfl, ne_hi (i := 6) (j := 4) hll16 rfl, ne_hi (i := 6) (j := 5) hll16 rfl, ne_lo2 (i := 6) hll16 h217⟩
      rcases List.mem_cons.mp hp with rfl | hp
      · exact ⟨ne_up (i := 6) (j := 3) rfl, ne_up (i := 6) (j := 4) rfl, ne_up (i := 6) (j := 5) rfl, Ne.symm (ne_lo (i := 6) h217)⟩
      rcases List.mem_append.mp hp with hp | hp
      · exact ⟨hRn15 (L + 1 + 1 + 1, o3) (List.mem_append_right _ (.tail _ (.tail _ (.head _)))) p hp, hRn15 (L + 1 + 1 + 1 + 1, o4) (List.mem_append_right _ (.tail _ (.head _))) p hp, hRn15 (L + 1 + 1 + 1 + 1 + 1, o5) (List.mem_append_right _ (.head _)) p hp, hRn15 (217, tabObj #[]) (List.mem_append_right _ (.tail _ (.tail _ (.tail _ (.head _))))) p hp⟩
      · exact ⟨(hR3 p hp).2.2.1, (hR3 p hp).2.2.2.1, (hR3 p hp).2.2.2.2.1, (hR3 p hp).2.2.2.2.2.2⟩, (by
      have B := nw_t (nw_t N15)
      have C := nw_r (nw_t B)
      have T := nw_r C
      exact nw_c (nw_h T) (nw_a (nw_c (nw_h N15) (nw_c (nw_h B) (nw_a (nw_l (nw_t B)) (nw_l C)))) (nw_t T))), DatIn.mono (fun p hp => .tail _ (.tail _ (List.mem_append.mpr (.inr hp)))) wD, .tail _ (.tail _ (List.mem_append.mpr (.inr pD))), .tail _ (.head _), .head _, fun j v hv => (hlw j v hv).mono fun p hp => .tail _ (.tail _ (List.mem_append.mpr (.inl hp)))⟩
  clear N15 hoff15 hRn15 hR3 dD gD hll15
  refine seg16 Bw X T F15 NR ho5 (of_a (fun p hp => (hR4 p hp).2.2.1) (of_c (ne_up (i := 4) (j := 5) rfl) (of_c (ne_up (i := 3) (j := 5) rfl) (of_c (ne_lo (i := 5) h217) of_n)))) (List.mem_append.mpr (.inl mol)) hol15 (List.mem_append.mpr (.inl mll)) hlv (fun j v hv => (hlw j v hv).mono fun p hp => List.mem_append.mpr (.inl hp)) (fun i hi => (f_hlead i hi).2.2.1) fun D16 o5' tl16 h16 tk16 m16 F16 N16 ho5' a16 lD e16 => ?_
  subst e16
  clear NR F15
  have NR : News h₀ L h16 ((L + 1 + 1 + 1, o3) :: (L + 1 + 1 + 1 + 1, o4) :: ((L + 1 + 1 + 1 + 1 + 1, o5') :: (tl16 ++ (R3 ++ [(217, tabObj #[])])))) := by
    have B := nw_r (nw_t N16)
    have T := nw_r B
    exact nw_c (nw_h (nw_t T)) (nw_c (nw_h T) (nw_c (nw_h N16) (nw_a (nw_l (nw_t N16)) (nw_a (nw_l B) (nw_t (nw_t T))))))
  clear N16
  have hps : ∀ k : Nat, k < 6 → 0 ≤ ((List.range 6).map fun j => (placeAt ways qs j : Int)).getD k 0 ∧ ((List.range 6).map fun j => (placeAt ways qs j : Int)).getD k 0 ≤ 1000 := fun k hk => by
    rw [List.getD_eq_getElem?_getD, List.getElem?_map, List.getElem?_range hk]
    have h1 := textAt_len ways qs f_hws k
    have h2 : placeAt ways qs k ≤ 1000 := by
      unfold placeAt
      split
      · omega
      · have h3 : (ways.getD (k - 1) []).length ≤ 6 := way_len ways (k - 1) f_hws
        rw [List.length_append]
        unfold rep
        rw [List.length_replicate]
        omega
    exact ⟨Int.natCast_nonneg _, by show ((placeAt ways qs k : Nat) : Int) ≤ 1000; omega⟩
  refine seg17 (lx := textAt ways qs 6 ++ List.replicate ((ways.getD 5 []).length) 41) (ps := (List.range 6).map fun j => (placeAt ways qs j : Int)) Bw X T F16 NR ho3 ho4 ho5' (.head _) (fun p hp => ?_) hE (DatIn.mono (fun p hp => .tail _ (List.mem_append.mpr (.inl hp))) lD) em15w em15t em15p (.tail _ (List.mem_append.mpr (.inr (List.mem_append.mpr (.inl pD))))) hpv (by rw [List.length_map, List.length_range]) hps ?_ (DatIn.mono (fun p hp => .tail _ (List.mem_append.mpr (.inr (List.mem_append.mpr (.inl hp))))) wD) f_hwl f_hws f_hlt f_hcut fun o3' o4' v3' v4' h17 tk17 gs17 m17 ag F17 N17 ho3' ho4' me17 => ?_
  · rcases List.mem_cons.mp hp with rfl | hp
    · exact ⟨ne_up (i := 5) (j := 3) rfl, ne_up (i := 5) (j := 4) rfl⟩
    rcases List.mem_append.mp hp with hp | hp
    · exact ⟨a16 (L + 1 + 1 + 1, o3) (.tail _ (List.mem_append_right _ (.tail _ (.head _)))) p hp, a16 (L + 1 + 1 + 1 + 1, o4) (.tail _ (List.mem_append_right _ (.head _))) p hp⟩
    rcases List.mem_append.mp hp with hp | hp
    · exact ⟨(hR4 p hp).1, (hR4 p hp).2.1⟩
    · rw [List.mem_singleton.mp hp]
      exact ⟨ne_lo (i := 3) h217, ne_lo (i := 4) h217⟩
  · have h1 := textAt_len ways qs f_hws 6
    have h2 : (ways.getD 5 []).length ≤ 6 := way_len ways 5 f_hws
    show (textAt ways qs 6 ++ List.replicate ((ways.getD 5 []).length) 41).toArray.size ≤ sizeLine
    rw [List.size_toArray, List.length_append, List.length_replicate, sizeLine_eq]
    omega
  have em17w : m17 (Str.ofString "ways") = some (.ref D6) := (me17 _ (by decide) (by decide) (by decide)).trans em15w
  clear me17 em15w em15p em15t NR F16 a16
  have NR : News h₀ L h17 ((217, tabObj #[]) :: R3) := by
    have B := nw_r (nw_t (nw_t (nw_t N17)))
    exact nw_c (nw_r B) (nw_l B)
  clear N17
  refine seg18 Bw X T F17 NR hC (fun p hp => (hR4 p hp).2.2.2) mol hol15 mll hlv hlw f_hok f_hs1 fun c18 h18 tk18 m18 F18 N18 e18 => ?_
  subst e18
  clear NR F17
  refine seg19 Bw X T F18 N18 hC (fun p hp => (hR4 p hp).2.2.2) mol hol15 mll hlv hlw f_hok em17w wD f_hwl f_hws f_hwn rfl f_hrp f_hs12 fun h19 tk19 xs19 F19 N19 => ?_
  exact k _ _ _ _ _ ag F19 fun p hp => N19 p (by rw [List.mem_singleton.mp hp]; exact .head _)
end Mine
end
section
open PySem PySem.W PySem.Spec PySem.Calls PyProof.Rows
set_option maxHeartbeats 2000000
namespace Mine
/-! the shapes -/
noncomputable def prefixesOf (l : List Int) : List (List Int) := (List.range (l.length + 1)).map fun k => l.take k
noncomputable def forests : Nat → List (List (List Int))
  | 0 => [[]]
  | i + 1 => (forests i).flatMap fun ways => (prefixesOf (ways.getLastD [])).map fun pr => ways ++ [pr ++ [(i : Int)]]
theorem mem_prefixes {p l : List Int} (h : p <+: l) : p ∈ prefixesOf l := by
  obtain ⟨t, rfl⟩ := h
  refine List.mem_map.mpr ⟨p.length, List.mem_range.mpr (by rw [List.length_append]; omega), ?_⟩
  rw [List.take_left]
structure Grows (i : Nat) (ways : List (List Int)) (pile : List Int) : Prop where
  mem : ways ∈ forests i
  len : ways.length = i
  bd : ∀ x ∈ pile, 0 ≤ x ∧ x < i
  pw : pile.Pairwise fun x y => ways.getD x.toNat [] <+: ways.getD y.toNat []
  last : ∀ x ∈ pile, ways.getD x.toNat [] <+: ways.getLastD []
theorem getD_left {ways : List (List Int)} {w : List Int} {x : Int} (h0 : 0 ≤ x) (h1 : x < ways.length) : (ways ++ [w]).getD x.toNat [] = ways.getD x.toNat [] := by
  rw [List.getD_eq_getElem?_getD, List.getD_eq_getElem?_getD, List.getElem?_append_left (by omega)]
theorem getD_right {ways : List (List Int)} {w : List Int} {i : Nat} (h : ways.length = i) : (ways ++ [w]).getD ((i : Nat) : Int).toNat [] = w := by
  rw [List.getD_eq_getElem?_getD, Int.toNat_natCast, ← h, List.getElem?_append_right (Nat.le_refl _), Nat.sub_self]; rfl
theorem last_right {ways : List (List Int)} {w : List Int} : (ways ++ [w]).getLastD [] = w := by
  rw [List.getLastD_eq_getLast?, List.getLast?_append]; rfl
theorem grows_step {i : Nat} {ways : List (List Int)} {pile : List Int} {c : Int} (G : Grows i ways pile) : Grows (i + 1) (waysStep ways pile i c).1 (waysStep ways pile i c).2 := by
  obtain ⟨hm, hl, hb, hp, hla⟩ := G
  unfold waysStep
  rcases List.eq_nil_or_concat pile with rfl | ⟨pile', top, rfl⟩
  · have hw : ∀ x ∈ List.dropLast ([] : List Int) ++ List.replicate c.toNat ((i : Nat) : Int), x = (i : Int) := fun x hx => by
      rcases List.mem_append.mp hx with hx | hx
      · cases hx
      · exact (List.mem_replicate.mp hx).2
    rw [if_pos rfl]
    refine ⟨List.mem_flatMap.mpr ⟨ways, hm, List.mem_map.mpr ⟨[], mem_prefixes List.nil_prefix, rfl⟩⟩, by rw [List.length_append, hl]; rfl, fun x hx => ?_, ?_, fun x hx => ?_⟩
    · rw [hw x hx]; omega
    · refine List.Pairwise.imp_of_mem (R := fun _ _ => True) (fun {x y} hx hy _ => ?_) (List.pairwise_iff_getElem.mpr fun _ _ _ _ _ => trivial)
      rw [hw x hx, hw y hy]; exact List.prefix_refl _
    · rw [hw x hx, getD_right hl, last_right]; exact List.prefix_refl _
  · rw [if_neg (by simp), List.concat_eq_append, List.dropLast_concat, show (pile' ++ [top]).getLastD 0 = top by rw [List.getLastD_eq_getLast?, List.getLast?_append]; rfl]
    rw [List.concat_eq_append] at hb hp hla
    obtain ⟨p1, p2, p3⟩ := List.pairwise_append.mp hp
    have ht := hb top (by simp)
    have hpr : ∀ x ∈ pile', ways.getD x.toNat [] <+: ways.getD top.toNat [] := fun x hx => p3 x hx top (by simp)
    have hb' : ∀ x ∈ pile', 0 ≤ x ∧ x < i := fun x hx => hb x (by simp [hx])
    have hg : ∀ x ∈ pile' ++ List.replicate c.toNat ((i : Nat) : Int), (ways ++ [ways.getD top.toNat [] ++ [(i : Int)]]).getD x.toNat [] <+: ways.getD top.toNat [] ++ [(i : Int)] := fun x hx => by
      rcases List.mem_append.mp hx with hx | hx
      · rw [getD_left (hb' x hx).1 (by rw [hl]; exact (hb' x hx).2)]
        exact (hpr x hx).trans (List.prefix_append _ _)
      · rw [(List.mem_replicate.mp hx).2, getD_right hl]; exact List.prefix_refl _
    refine ⟨List.mem_flatMap.mpr ⟨ways, hm, List.mem_map.mpr ⟨ways.getD top.toNat [], mem_prefixes (hla top (by simp)), rfl⟩⟩, by rw [List.length_append, hl]; rfl, fun x hx => ?_, ?_, fun x hx => ?_⟩
    · rcases List.mem_append.mp hx with hx | hx
      · have := hb' x hx; omega
      · rw [(List.mem_replicate.mp hx).2]; omega
    · refine List.pairwise_append.mpr ⟨?_, ?_, fun x hx y hy => ?_⟩
      · refine p1.imp_of_mem fun {x y} hx hy h => ?_
        rw [getD_left (hb' x hx).1 (by rw [hl]; exact (hb' x hx).2), getD_left (hb' y hy).1 (by rw [hl]; exact (hb' y hy).2)]
        exact h
      · refine List.Pairwise.imp_of_mem (R := fun _ _ => True) (fun {x y} hx hy _ => ?_) (List.pairwise_iff_getElem.mpr fun _ _ _ _ _ => trivial)
        rw [(List.mem_replicate.mp hx).2, (List.mem_replicate.mp hy).2]; exact List.prefix_refl _
      · rw [(List.mem_replicate.mp hy).2, getD_right hl]
        exact hg x (List.mem_append.mpr (.inl hx))
    · rw [last_right]; exact hg x hx
theorem grows (cs : List Int) : ∀ i, Grows i (waysAt cs i).1 (waysAt cs i).2
  | 0 => ⟨.head _, rfl, fun _ h => (nomatch h), .nil, fun _ h => (nomatch h)⟩
  | i + 1 => grows_step (grows cs i)
theorem ways_forest (qs : List (Nat × Str)) : waysOf qs ∈ forests 6 := (grows _ 6).mem

noncomputable def incs : List (List Int) := [[0], [1], [2], [3], [4], [5]] ++ ((List.range 64).map fun n => (List.range 6).filterMap fun i => if n.testBit i then some (i : Int) else none)
noncomputable def okWay (i : Nat) (way : List Int) (ways : List (List Int)) : Bool :=
  way.length ≤ 6 && way != [] && way.all (fun y => decide (0 ≤ y) && decide (y < 6)) && way.getLastD 9 == (i : Int) && incs.contains way &&
  (if 2 ≤ way.length then ways.getD (way.getD (way.length - 2) 0).toNat [] == way.dropLast && decide (0 ≤ way.getD (way.length - 2) 0) && decide (way.getD (way.length - 2) 0 < 6) else true)
noncomputable def okShape (ways : List (List Int)) : Bool :=
  ways.length == 6 && (List.range 6).all fun i => okWay i (ways.getD i []) ways
theorem shapes_ok : (forests 6).all okShape = true := by decide +kernel
noncomputable def rN (ways : List (List Int)) (i : Nat) : Nat := (rightN ways i).toNat
noncomputable def hangB (ways : List (List Int)) (i j : Nat) : Bool := decide (i ≠ j) && (ways.getD j []).contains (i : Int)
noncomputable def okRight (ways : List (List Int)) : Bool :=
  (List.range 6).all fun i => decide (0 ≤ rightN ways i) && decide (rightN ways i ≤ (i : Int) + 5) && (List.range 6).all fun j => (decide (i < j) && decide (rightN ways i ≤ rightN ways j)) == hangB ways i j
theorem rights_ok : (forests 6).all okRight = true := by decide +kernel
noncomputable def okWalk (ways : List (List Int)) : Bool := (rightW ways 7 []).isPerm [0, 1, 2, 3, 4, 5] && decide ((rightW ways 7 []).Pairwise fun x y => x + 11 * rightN ways x.toNat < y + 11 * rightN ways y.toNat)
theorem walks_ok : (forests 6).all okWalk = true := by decide +kernel

noncomputable def textF (ways : List (List Int)) (qs : List (Nat × Str)) : List Nat := textAt ways qs 6 ++ List.replicate ((ways.getD 5 []).length) 41
noncomputable def cutF (lx : List Nat) (a b : Nat) : List Nat := (lx.drop (a + 1)).take (b - (a + 1))
noncomputable def okCut (ways : List (List Int)) : Bool :=
  (List.range 6).all fun j => decide (placeAt ways [] j ≤ (textF ways []).length) && (List.range j).all fun i => decide (placeAt ways [] i + 1 ≤ placeAt ways [] j) && (parenW 0 (cutF (textF ways []) (placeAt ways [] i) (placeAt ways [] j)) == (hangB ways i j && ((List.range 6).filter fun t => hangB ways i t && hangB ways t j).isEmpty))
theorem cuts_ok : (forests 6).all okCut = true := by decide +kernel
/-! the leads -/
noncomputable def leadR (fr : List Nat) (i r : Nat) : List Nat := fr ++ List.replicate r 9 ++ List.replicate (i + 5 - r) 32
noncomputable def wsT (two : Bool) (i r : Nat) : WS := if two then ⟨[(r : Int), 1], ((i + 5 - r : Nat) : Int), (2 + r + (i + 5 - r) : Nat), (1 + r : Nat)⟩ else ⟨if r = 0 then [] else [(r : Int)], ((i + 5 - r : Nat) : Int), (r + (i + 5 - r) : Nat), (r : Nat)⟩
noncomputable def frT (two : Bool) : List Nat := if two then [32, 9] else []
noncomputable def wsEq (a b : WS) : Bool := decide (a.count = b.count) && decide (a.b = b.b) && decide (a.n = b.n) && decide (a.nt = b.nt)
theorem wsEq_eq {a b : WS} (h : wsEq a b = true) : a = b := by
  cases a; cases b
  simp only [wsEq, Bool.and_eq_true, decide_eq_true_eq] at h
  obtain ⟨⟨⟨h1, h2⟩, h3⟩, h4⟩ := h
  rw [WS.mk.injEq]
  exact ⟨h1, h2, h3, h4⟩
noncomputable def okLead (two : Bool) (i r : Nat) : Bool := wsEq (wsOf (leadR (frT two) i r)) (wsT two i r) && wsEq (wsOf (leadR (frT two) i r ++ [32])) { wsT two i r with b := (wsT two i r).b + 1, n := (wsT two i r).n + 1 } &&
  lessW (wsT two i r) { wsT two i r with b := (wsT two i r).b + 1, n := (wsT two i r).n + 1 }
theorem leads_ok : ([true, false].all fun two => (List.range 6).all fun i => (List.range (i + 6)).all fun r => okLead two i r) = true := by decide +kernel
noncomputable def okLess (two : Bool) (i r j q : Nat) : Bool := lessW (wsT two i r) (wsT two j q) == (decide (i < j) && decide (r ≤ q))
theorem less_ok : ([true, false].all fun two => (List.range 6).all fun i => (List.range (i + 6)).all fun r => (List.range 6).all fun j => (List.range (j + 6)).all fun q => okLess two i r j q) = true := by decide +kernel
/-! the flags -/
noncomputable def okFlag (b : Nat) (x : List Int) : Bool := (x == []) || (((List.range 32).filter fun j => (flagN (b : Int) x).testBit j) == x.map (fun y => ((b : Int) + y).toNat) && decide (0 < flagN (b : Int) x) && decide (flagN (b : Int) x < 4294967296))
theorem flags_ok : ((List.range 27).all fun b => incs.all fun x => okFlag b x) = true := by decide +kernel
end Mine
end
section
open PySem PySem.W PySem.Spec PySem.Calls PyProof.Rows
set_option maxHeartbeats 2000000
namespace Mine
theorem all_range {n : Nat} {f : Nat → Bool} (h : (List.range n).all f = true) {i : Nat} (hi : i < n) : f i = true := List.all_eq_true.mp h i (List.mem_range.mpr hi)
theorem mem_getD {ways : List (List Int)} {n : Nat} (hl : ways.length = n) {x : List Int} (hx : x ∈ ways) : ∃ i, i < n ∧ ways.getD i [] = x := by
  obtain ⟨i, hi, e⟩ := List.mem_iff_getElem.mp hx
  exact ⟨i, hl ▸ hi, by rw [List.getD_eq_getElem?_getD, List.getElem?_eq_getElem hi, e]; rfl⟩
structure WayOk (ways : List (List Int)) (i : Nat) : Prop where
  len : (ways.getD i []).length ≤ 6
  ne : ways.getD i [] ≠ []
  bd : ∀ y ∈ ways.getD i [], 0 ≤ y ∧ y < 6
  last : (ways.getD i []).getLastD 9 = (i : Int)
  inc : ways.getD i [] ∈ incs
  par : 2 ≤ (ways.getD i []).length → ways.getD ((ways.getD i []).getD ((ways.getD i []).length - 2) 0).toNat [] = (ways.getD i []).dropLast ∧ 0 ≤ (ways.getD i []).getD ((ways.getD i []).length - 2) 0 ∧ (ways.getD i []).getD ((ways.getD i []).length - 2) 0 < 6
theorem shape_of {ways : List (List Int)} (h : ways ∈ forests 6) : ways.length = 6 ∧ ∀ i, i < 6 → WayOk ways i := by
  have h1 := List.all_eq_true.mp shapes_ok ways h
  unfold okShape at h1
  rw [Bool.and_eq_true] at h1
  refine ⟨by simpa using h1.1, fun i hi => ?_⟩
  have h2 := all_range h1.2 hi
  unfold okWay at h2
  simp only [Bool.and_eq_true] at h2
  obtain ⟨⟨⟨⟨⟨a1, a2⟩, a3⟩, a4⟩, a5⟩, a6⟩ := h2
  refine ⟨by simpa using a1, by simpa using a2, fun y hy => ?_, by simpa using a4, by simpa using a5, fun hh => ?_⟩
  · have := List.all_eq_true.mp a3 y hy
    simpa using this
  · rw [if_pos hh] at a6
    simp only [Bool.and_eq_true, beq_iff_eq, decide_eq_true_eq] at a6
    exact ⟨a6.1.1, a6.1.2, a6.2⟩
structure RightOk (ways : List (List Int)) (i : Nat) : Prop where
  eq : rightN ways i = (rN ways i : Int)
  le : rN ways i ≤ i + 5
  hang : ∀ j, j < 6 → (decide (i < j) && decide (rN ways i ≤ rN ways j)) = hangB ways i j
theorem right_of {ways : List (List Int)} (h : ways ∈ forests 6) : ∀ i, i < 6 → RightOk ways i := by
  have h1 := List.all_eq_true.mp rights_ok ways h
  unfold okRight at h1
  have h0 : ∀ i, i < 6 → 0 ≤ rightN ways i ∧ rightN ways i ≤ (i : Int) + 5 := fun i hi => by
    have h2 := all_range h1 hi
    simp only [Bool.and_eq_true, decide_eq_true_eq] at h2
    exact h2.1
  have he : ∀ i, i < 6 → rightN ways i = (rN ways i : Int) := fun i hi => by
    unfold rN
    have := (h0 i hi).1
    omega
  intro i hi
  refine ⟨he i hi, by have := (h0 i hi).2; rw [he i hi] at this; omega, fun j hj => ?_⟩
  have h2 := all_range h1 hi
  simp only [Bool.and_eq_true] at h2
  have h3 := all_range h2.2 hj
  rw [beq_iff_eq] at h3
  rw [← h3, he i hi, he j hj]
  congr 1
  simp
theorem hang_eq (ways : List (List Int)) (i j : Nat) : hangB ways i j = hangsB ways i j := by
  unfold hangB hangsB
  rw [List.contains_eq_mem]
theorem lead_of {ways : List (List Int)} {i : Nat} (R : RightOk ways i) (fr : List Nat) : leadL fr ways i = leadR fr i (rN ways i) := by
  unfold leadL leadR
  rw [R.eq]
  have := R.le
  rw [show ((i : Int) + 5 - (rN ways i : Int)).toNat = i + 5 - rN ways i by omega]
  rfl
theorem bools (two : Bool) : two ∈ [true, false] := by cases two <;> simp
theorem ws_of {ways : List (List Int)} {i : Nat} (hi : i < 6) (R : RightOk ways i) (two : Bool) : wsOf (leadL (frT two) ways i) = wsT two i (rN ways i) ∧ wsOf (leadL (frT two) ways i ++ [32]) = { wsT two i (rN ways i) with b := (wsT two i (rN ways i)).b + 1, n := (wsT two i (rN ways i)).n + 1 } ∧
    lessW (wsT two i (rN ways i)) { wsT two i (rN ways i) with b := (wsT two i (rN ways i)).b + 1, n := (wsT two i (rN ways i)).n + 1 } = true := by
  have h := all_range (all_range (List.all_eq_true.mp leads_ok two (bools two)) hi) (i := rN ways i) (by have := R.le; omega)
  rw [lead_of R]
  unfold okLead at h
  simp only [Bool.and_eq_true] at h
  exact ⟨wsEq_eq h.1.1, wsEq_eq h.1.2, h.2⟩
theorem lt_of {ways : List (List Int)} (h : ways ∈ forests 6) (two : Bool) {i j : Nat} (hi : i < 6) (hj : j < 6) : ltW (frT two) ways i j = hangsB ways i j := by
  have Ri := right_of h i hi
  have Rj := right_of h j hj
  have h1 := all_range (all_range (all_range (all_range (List.all_eq_true.mp less_ok two (bools two)) hi) (i := rN ways i) (by have := Ri.le; omega)) hj) (i := rN ways j) (by have := Rj.le; omega)
  unfold okLess at h1
  rw [beq_iff_eq] at h1
  unfold ltW
  rw [(ws_of hi Ri two).1, (ws_of hj Rj two).1, h1, Ri.hang j hj, hang_eq]
theorem front_eq (S : Int) : ∃ two, frontOf S = frT two := by
  unfold frontOf
  split
  · exact ⟨true, rfl⟩
  · exact ⟨false, rfl⟩
/-! the flags -/
theorem flag_of {b : Int} (h0 : 0 ≤ b) (h27 : b < 27) {x : List Int} (hx : x ∈ incs) (hne : x ≠ []) : (List.range 32).filter (fun j => (flagN b x).testBit j) = x.map (fun y => (b + y).toNat) ∧ 0 < flagN b x ∧ flagN b x < 2 ^ 32 := by
  obtain ⟨n, rfl⟩ : ∃ n : Nat, b = n := ⟨b.toNat, by omega⟩
  have h1 := List.all_eq_true.mp (all_range flags_ok (i := n) (by omega)) x hx
  unfold okFlag at h1
  rw [Bool.or_eq_true] at h1
  rcases h1 with h1 | h1
  · exact absurd (by simpa using h1) hne
  · simp only [Bool.and_eq_true, beq_iff_eq, decide_eq_true_eq] at h1
    exact ⟨h1.1.1, h1.1.2, h1.2⟩
theorem words_of {b : Int} (h0 : 0 ≤ b) (h27 : b < 27) {x : List Int} (hx : x ∈ incs) (hne : x ≠ []) (hb : ∀ y ∈ x, 0 ≤ y ∧ y < 6) : flagWords (flagN b x) 32 = x.map fun y => word (b + y) := by
  unfold flagWords
  rw [(flag_of h0 h27 hx hne).1, List.map_map]
  refine List.map_congr_left fun y hy => ?_
  show word (((b + y).toNat : Nat) : Int) = word (b + y)
  rw [Int.toNat_of_nonneg (by have := hb y hy; omega)]
theorem str_ext {a b : Str} (h : a.cps.toList = b.cps.toList) : a = b := PyProof.Rows.str_eq_of_lists h
theorem str_assoc (a b c : Str) : a ++ b ++ c = a ++ (b ++ c) := PySem.Str.append_assoc a b c
theorem join_is (sep : Str) (l : List Str) : Txt.join sep l = Str.join sep l := StrLaws.glued_eq_join sep l
theorem sjoin_snoc (sep : Str) (w : Str) : ∀ l : List Str, l ≠ [] → Str.join sep (l ++ [w]) = Str.join sep l ++ sep ++ w
  | [], h => absurd rfl h
  | [x], _ => rfl
  | x :: y :: r, _ => by
    show x ++ sep ++ Str.join sep ((y :: r) ++ [w]) = x ++ sep ++ Str.join sep (y :: r) ++ sep ++ w
    rw [sjoin_snoc sep w (y :: r) (by simp)]
    simp only [str_assoc]
theorem flagStr_of {b : Int} (h0 : 0 ≤ b) (h27 : b < 27) {x : List Int} (hx : x ∈ incs) (hne : x ≠ []) (hb : ∀ y ∈ x, 0 ≤ y ∧ y < 6) : flagStr b x = Str.join (Str.ofString ", ") (x.map fun y => word (b + y)) := by
  show Txt.join _ _ = _
  rw [join_is, words_of h0 h27 hx hne hb]
theorem flag_len (b : Int) (x : List Int) : (flagStr b x).length ≤ 5000 := by
  show (Txt.join _ _).length ≤ _
  rw [join_is]
  refine Nat.le_trans (StrLaws.join_length_le _ _) ?_
  have hl : (flagWords (flagN b x) 32).length ≤ 32 := by
    unfold flagWords; rw [List.length_map]
    exact Nat.le_trans (List.length_filter_le _ _) (by rw [List.length_range]; exact Nat.le_refl _)
  have hs : ((flagWords (flagN b x) 32).map (·.length)).sum ≤ (flagWords (flagN b x) 32).length * 100 := StrLaws.sumLen_le _ (fun y hy => by
    obtain ⟨j, hj, rfl⟩ := List.mem_map.mp hy
    exact wordlen j (List.mem_range.mp (List.mem_filter.mp hj).1))
  have e2 : (Str.ofString ", ").length = 2 := by decide +kernel
  rw [e2]
  omega
theorem way_snoc {ways : List (List Int)} {i : Nat} (W : WayOk ways i) : ways.getD i [] = (ways.getD i []).dropLast ++ [(i : Int)] := by
  have h := List.dropLast_concat_getLast W.ne
  have h2 : (ways.getD i []).getLast W.ne = (i : Int) := by
    have := W.last
    rw [List.getLastD_eq_getLast?, List.getLast?_eq_some_getLast W.ne] at this
    exact this
  rw [h2] at h
  exact h.symm
theorem map_getD {ways : List (List Int)} {f : List Int → Str} {i : Nat} (hi : i < ways.length) : (ways.map f).getD i (Str.ofString "") = f (ways.getD i []) := by
  rw [List.getD_eq_getElem?_getD, List.getD_eq_getElem?_getD, List.getElem?_map, List.getElem?_eq_getElem hi]; rfl
theorem yes_of {ways : List (List Int)} (h : ways ∈ forests 6) {b : Int} (h0 : 0 ≤ b) (h27 : b < 27) (i : Nat) (hi : i < 6) (h2 : 1 < (ways.getD i []).length) :
    (ways.map (flagStr b)).getD (i : Int).toNat (Str.ofString "") = (ways.map (flagStr b)).getD ((ways.getD i []).getD ((ways.getD i []).length - 2) 0).toNat (Str.ofString "") ++ Str.ofString ", " ++ word (b + i) := by
  obtain ⟨hl, hw⟩ := shape_of h
  have W := hw i hi
  obtain ⟨p1, p2, p3⟩ := W.par h2
  generalize (ways.getD i []).getD ((ways.getD i []).length - 2) 0 = q at p1 p2 p3
  have Wq := hw q.toNat (by omega)
  rw [Int.toNat_natCast, map_getD (by omega), map_getD (by omega), flagStr_of h0 h27 W.inc W.ne W.bd, flagStr_of h0 h27 Wq.inc Wq.ne Wq.bd, p1]
  conv => lhs; rw [way_snoc W]
  rw [List.map_append]
  refine sjoin_snoc _ _ _ ?_
  rw [← p1]
  intro e
  exact Wq.ne (List.map_eq_nil_iff.mp e)
theorem no_of {ways : List (List Int)} (h : ways ∈ forests 6) {b : Int} (h0 : 0 ≤ b) (h27 : b < 27) (i : Nat) (hi : i < 6) (h2 : ¬ 1 < (ways.getD i []).length) :
    (ways.map (flagStr b)).getD (i : Int).toNat (Str.ofString "") = Str.ofString "" ++ word (b + i) := by
  obtain ⟨hl, hw⟩ := shape_of h
  have W := hw i hi
  rw [Int.toNat_natCast, map_getD (by omega), flagStr_of h0 h27 W.inc W.ne W.bd, way_snoc W]
  have e : (ways.getD i []).dropLast = [] := List.eq_nil_of_length_eq_zero (by rw [List.length_dropLast]; omega)
  rw [e]
  show word (b + i) = Str.ofString "" ++ word (b + i)
  apply str_ext
  show _ = ((Str.ofString "").cps ++ (word (b + i)).cps).toList
  rw [show (Str.ofString "").cps = #[] by decide +kernel]
  simp
end Mine
end
section
open PySem PySem.W PySem.Spec PySem.Calls PyProof.Rows
set_option maxHeartbeats 2000000
namespace Mine
/-! the text -/
noncomputable def veil (c : Nat) : Nat := if c = 40 then 40 else if c = 41 then 41 else 0
theorem veil_rep (n : Int) : (rep n).map veil = rep n := by unfold rep; rw [List.map_replicate]; rfl
noncomputable def Plain (qs : List (Nat × Str)) : Prop := ∀ i, veil (qs.getD i (0, Str.ofString "")).1 = 0 ∧ (qs.getD i (0, Str.ofString "")).1 ≠ 34 ∧ (qs.getD i (0, Str.ofString "")).1 ≠ 92
theorem signs_plain : ∀ q ∈ signs, q.1 ≠ 40 ∧ q.1 ≠ 41 ∧ q.1 ≠ 34 ∧ q.1 ≠ 92 := by decide +kernel
theorem plain_of {qs : List (Nat × Str)} (h : ∀ q ∈ qs, q ∈ signs) : Plain qs := fun i => by
  rw [List.getD_eq_getElem?_getD]
  cases e : qs[i]? with
  | none => exact ⟨rfl, by decide, by decide⟩
  | some q =>
    obtain ⟨h1, h2, h3, h4⟩ := signs_plain q (h q (List.mem_of_getElem? e))
    refine ⟨?_, h3, h4⟩
    show veil q.1 = 0
    unfold veil; rw [if_neg h1, if_neg h2]
theorem text_veil (ways : List (List Int)) {qs : List (Nat × Str)} (h : Plain qs) : ∀ i, (textAt ways qs i).map veil = textAt ways [] i
  | 0 => rfl
  | i + 1 => by
    show ((if i = 0 then textAt ways qs i else textAt ways qs i ++ rep _) ++ [40, (qs.getD i (0, Str.ofString "")).1]).map veil = (if i = 0 then textAt ways [] i else textAt ways [] i ++ rep _) ++ [40, 0]
    rw [List.map_append, List.map_cons, List.map_cons, List.map_nil, (h i).1]
    have e := text_veil ways h i
    split
    · rw [e]; rfl
    · rw [List.map_append, e, veil_rep]; rfl
theorem text_chars (ways : List (List Int)) {qs : List (Nat × Str)} (h : Plain qs) : ∀ i, ∀ c ∈ textAt ways qs i, c ≠ 34 ∧ c ≠ 92
  | 0, c, hc => nomatch hc
  | i + 1, c, hc => by
    change c ∈ (if i = 0 then textAt ways qs i else textAt ways qs i ++ rep _) ++ [40, (qs.getD i (0, Str.ofString "")).1] at hc
    have hi := text_chars ways h i
    rcases List.mem_append.mp hc with hc | hc
    · split at hc
      · exact hi c hc
      · rcases List.mem_append.mp hc with hc | hc
        · exact hi c hc
        · unfold rep at hc
          rw [(List.mem_replicate.mp hc).2]; decide
    · simp only [List.mem_cons, List.not_mem_nil, or_false] at hc
      rcases hc with rfl | rfl
      · decide
      · exact (h i).2
theorem veil_len (ways : List (List Int)) {qs : List (Nat × Str)} (h : Plain qs) (i : Nat) : (textAt ways qs i).length = (textAt ways [] i).length := by
  rw [← text_veil ways h i, List.length_map]
theorem place_veil (ways : List (List Int)) {qs : List (Nat × Str)} (h : Plain qs) (i : Nat) : placeAt ways qs i = placeAt ways [] i := by
  unfold placeAt
  split
  · exact veil_len ways h i
  · rw [List.length_append, List.length_append, veil_len ways h i]
theorem paren_veil : ∀ (l : List Nat) (o : Int), parenW o (l.map veil) = parenW o l
  | [], o => rfl
  | c :: r, o => by
    rw [List.map_cons]
    show (if veil c = 40 then parenW (o + 1) (r.map veil) else if veil c = 41 then (if o - 1 < 0 then false else parenW (o - 1) (r.map veil)) else parenW o (r.map veil)) =
      if c = 40 then parenW (o + 1) r else if c = 41 then (if o - 1 < 0 then false else parenW (o - 1) r) else parenW o r
    rw [paren_veil r, paren_veil r, paren_veil r]
    unfold veil
    by_cases h1 : c = 40
    · rw [if_pos h1]; simp [h1]
    · rw [if_neg h1]
      by_cases h2 : c = 41
      · rw [if_pos h2]; simp [h1, h2]
      · rw [if_neg h2]; simp [h1, h2]
theorem cut_of {lx : List Nat} {a b : Nat} (h : a + 1 ≤ b) (hb : b ≤ lx.length) : (Txt.slice ⟨lx.toArray⟩ (some ((a : Int) + 1)) (some (b : Int))).cps.toList = cutF lx a b := by
  show (StrLaws.sliceText ⟨lx.toArray⟩ (some ((a : Int) + 1)) (some (b : Int))).cps.toList = _
  rw [StrLaws.sliceText_plain ⟨by omega, by omega, by show (b : Int) ≤ (lx.length : Int); omega⟩]
  show List.take ((b : Int) - ((a : Int) + 1)).toNat (List.drop ((a : Int) + 1).toNat lx) = _
  unfold cutF
  rw [show ((b : Int) - ((a : Int) + 1)).toNat = b - (a + 1) by omega, show ((a : Int) + 1).toNat = a + 1 by omega]
theorem betw_of {ways : List (List Int)} (h : ways ∈ forests 6) (two : Bool) {i j : Nat} (hi : i < 6) (hj : j < 6) : decide (betwN (frT two) ways i j 6 = []) = ((List.range 6).filter fun t => hangB ways i t && hangB ways t j).isEmpty := by
  have e : (List.range 6).filter (fun t => ltW (frT two) ways i t && ltW (frT two) ways t j) = (List.range 6).filter fun t => hangB ways i t && hangB ways t j :=
    List.filter_congr fun t ht => by rw [lt_of h two hi (List.mem_range.mp ht), lt_of h two (List.mem_range.mp ht) hj, hang_eq, hang_eq]
  unfold betwN
  rw [e]
  generalize (List.range 6).filter (fun t => hangB ways i t && hangB ways t j) = l
  cases l <;> rfl
theorem cuts_of {ways : List (List Int)} (h : ways ∈ forests 6) {qs : List (Nat × Str)} (P : Plain qs) (two : Bool) (i j : Nat) (hij : i < j) (hj : j < 6) :
    (∀ c, c ∈ (cutAt (textAt ways qs 6 ++ List.replicate ((ways.getD 5 []).length) 41) ((List.range 6).map fun j => (placeAt ways qs j : Int)) i j).cps → c ≠ 34 ∧ c ≠ 92) ∧
    parenW 0 (cutAt (textAt ways qs 6 ++ List.replicate ((ways.getD 5 []).length) 41) ((List.range 6).map fun j => (placeAt ways qs j : Int)) i j).cps.toList = (hangsB ways i j && decide (betwN (frT two) ways i j 6 = [])) := by
  have hi : i < 6 := Nat.lt_trans hij hj
  have hp : ∀ k, k < 6 → ((List.range 6).map fun j => (placeAt ways qs j : Int)).getD k 0 = (placeAt ways [] k : Int) := fun k hk => by
    rw [List.getD_eq_getElem?_getD, List.getElem?_map, List.getElem?_range hk, ← place_veil ways P k]; rfl
  have h1 := List.all_eq_true.mp cuts_ok ways h
  unfold okCut at h1
  have h2 := all_range h1 hj
  rw [Bool.and_eq_true, decide_eq_true_eq] at h2
  have h3 := all_range h2.2 hij
  rw [Bool.and_eq_true, decide_eq_true_eq, beq_iff_eq] at h3
  have hv : (textF ways qs).map veil = textF ways [] := by
    unfold textF
    rw [List.map_append, text_veil ways P, List.map_replicate]; rfl
  have hl : (textF ways qs).length = (textF ways []).length := by rw [← hv, List.length_map]
  have hc : (cutAt (textAt ways qs 6 ++ List.replicate ((ways.getD 5 []).length) 41) ((List.range 6).map fun j => (placeAt ways qs j : Int)) i j).cps.toList = cutF (textF ways qs) (placeAt ways [] i) (placeAt ways [] j) := by
    show (Txt.slice _ (some (_ + 1)) (some _)).cps.toList = _
    rw [hp i hi, hp j hj]
    exact cut_of (lx := textF ways qs) h3.1 (by rw [hl]; exact h2.1)
  constructor
  · intro c hcc
    have hm : c ∈ cutF (textF ways qs) (placeAt ways [] i) (placeAt ways [] j) := by
      rw [← hc]; exact Array.mem_toList_iff.mpr hcc
    have hm2 : c ∈ textF ways qs := List.mem_of_mem_drop (List.mem_of_mem_take hm)
    rcases List.mem_append.mp hm2 with hm2 | hm2
    · exact text_chars ways P 6 c hm2
    · rw [(List.mem_replicate.mp hm2).2]; decide
  · rw [hc, betw_of h two hi hj, ← hang_eq, ← h3.2, ← paren_veil]
    congr 1
    unfold cutF
    rw [List.map_take, List.map_drop, hv]
theorem ws_okT (two : Bool) (i r : Nat) (hi : i < 6) (hr : r ≤ i + 5) : Sane (wsT two i r) ∧ Sane { wsT two i r with b := (wsT two i r).b + 1, n := (wsT two i r).n + 1 } ∧ LevOk (wsT two i r) ∧ levT 1 (wsT two i r) = (i : Int) + (if two then 7 else 5) ∧ levT 12 (wsT two i r) = (i : Int) + 11 * r + (if two then 17 else 5) := by
  cases two
  · by_cases h0 : r = 0
    · subst h0
      simp only [wsT, if_true, Bool.false_eq_true, if_false]
      refine ⟨⟨?_, ?_, ?_, ?_, ?_⟩, ⟨?_, ?_, ?_, ?_, ?_⟩, ⟨?_, ?_, ?_, ?_, .inl ?_⟩, ?_, ?_⟩ <;> (try simp only [levT, List.length_nil]) <;> (try omega)
    · simp only [wsT, if_neg h0, Bool.false_eq_true, if_false]
      refine ⟨⟨?_, ?_, ?_, ?_, ?_⟩, ⟨?_, ?_, ?_, ?_, ?_⟩, ⟨?_, ?_, ?_, ?_, .inl ?_⟩, ?_, ?_⟩ <;> (try simp only [levT, List.length_cons, List.length_nil]) <;> (try omega)
  · simp only [wsT, if_true]
    refine ⟨⟨?_, ?_, ?_, ?_, ?_⟩, ⟨?_, ?_, ?_, ?_, ?_⟩, ⟨?_, ?_, ?_, ?_, .inr ⟨_, _, rfl, ?_, ?_⟩⟩, ?_, ?_⟩ <;> (try simp only [levT, List.length_cons, List.length_nil]) <;> (try simp) <;> (try omega)
theorem law_facts (qs : List (Nat × Str)) (b S : Int) (hl : qs.length = 6) (hq : ∀ q ∈ qs, q ∈ signs) (h0 : 0 ≤ b) (h27 : b < 27) : LawFacts qs (waysOf qs) b (frontOf S) := by
  obtain ⟨two, e⟩ := front_eq S
  rw [e]
  have h := ways_forest qs
  have P := plain_of hq
  generalize waysOf qs = ways at h
  obtain ⟨h6, hw⟩ := shape_of h
  have hr := right_of h
  have T := fun (i : Nat) (hi : i < 6) => ws_of hi (hr i hi) two
  have O := fun (i : Nat) (hi : i < 6) => ws_okT two i (rN ways i) hi (hr i hi).le
  have hk := List.all_eq_true.mp walks_ok ways h
  unfold okWalk at hk
  rw [Bool.and_eq_true, decide_eq_true_eq] at hk
  have hperm : (rightW ways 7 []).Perm [0, 1, 2, 3, 4, 5] := List.isPerm_iff.mp hk.1
  have lev1 : ∀ x : Int, x ∈ ([0, 1, 2, 3, 4, 5] : List Int) → levT 1 (wsOf (leadL (frT two) ways x.toNat)) = x + (if two then 7 else 5) ∧ levT 12 (wsOf (leadL (frT two) ways x.toNat)) = x + 11 * rightN ways x.toNat + (if two then 17 else 5) := fun x hx => by
    have hx6 : 0 ≤ x ∧ x < 6 := by
      simp only [List.mem_cons, List.not_mem_nil, or_false] at hx
      omega
    have hi : x.toNat < 6 := by omega
    rw [(T _ hi).1, (O _ hi).2.2.2.1, (O _ hi).2.2.2.2, (hr _ hi).eq, Int.toNat_of_nonneg hx6.1]
    exact ⟨rfl, rfl⟩
  refine ⟨h6, fun x hx => ?_, fun x hx => ?_, fun x hx => ?_, fun x hx => ?_, fun j => ?_, fun i hi hlen => ((hw i hi).par hlen).2, yes_of h h0 h27, no_of h h0 h27, by cases two <;> decide, fun i hi => ?_, fun i j hi hj => lt_of h two hi hj, cuts_of h P two, fun i hi => ?_, ?_, hperm, ?_⟩
  · obtain ⟨i, hi, rfl⟩ := mem_getD h6 hx; exact (hw i hi).len
  · obtain ⟨i, hi, rfl⟩ := mem_getD h6 hx; exact (hw i hi).ne
  · obtain ⟨i, hi, rfl⟩ := mem_getD h6 hx; exact (hw i hi).bd
  · obtain ⟨i, hi, rfl⟩ := mem_getD h6 hx
    exact (flag_of h0 h27 (hw i hi).inc (hw i hi).ne).2
  · by_cases hj : j < ways.length
    · rw [map_getD hj]; exact flag_len b _
    · rw [List.getD_eq_getElem?_getD, List.getElem?_eq_none (by rw [List.length_map]; omega)]
      show (Str.ofString "").length ≤ 5000
      decide +kernel
  · have R := (hr i hi).le
    refine ⟨?_, ?_, ?_, ?_, ?_⟩
    · rw [lead_of (hr i hi)]
      unfold leadR
      rw [List.length_append, List.length_append, List.length_replicate, List.length_replicate]
      have : (frT two).length ≤ 2 := by cases two <;> decide
      omega
    · intro c hc
      rw [lead_of (hr i hi)] at hc
      unfold leadR at hc
      rcases List.mem_append.mp hc with hc | hc
      · rcases List.mem_append.mp hc with hc | hc
        · cases two
          · cases hc
          · simp only [frT, if_true, List.mem_cons, List.not_mem_nil, or_false] at hc; exact hc
        · exact .inr (List.mem_replicate.mp hc).2
      · exact .inl (List.mem_replicate.mp hc).2
    · rw [(T i hi).1]; exact (O i hi).1
    · rw [(T i hi).2.1]; exact (O i hi).2.1
    · rw [(T i hi).1, (T i hi).2.1]; exact (T i hi).2.2
  · rw [(T i hi).1]; exact (O i hi).2.2.1
  · have hpw : ([0, 1, 2, 3, 4, 5] : List Int).Pairwise (· < ·) := by decide
    refine hpw.imp_of_mem fun {x y} hx hy hlt => ?_
    rw [(lev1 x hx).1, (lev1 y hy).1]; omega
  · refine hk.2.imp_of_mem fun {x y} hx hy hlt => ?_
    rw [(lev1 x (hperm.mem_iff.mp hx)).2, (lev1 y (hperm.mem_iff.mp hy)).2]; omega
end Mine
end
section
open PySem PySem.W PyProof.Rows
set_option maxHeartbeats 400000
namespace Mine
noncomputable def hashRun (p : Program) (w : World) (b : List Stmt) (env : Env) (heap : Heap) (gens : Array GenState) (drawn : Drawn) (toks : Nat) (os : OsState) (q : Pos) (k : Int) (t : Tok) (K : Int → Sem Fin) (H : Value → Sem Fin) (gd : Bool → Bool) (lv : List Value → List Value) : Option (Shared × Thread) :=
  topGo treeTable p w 11 (some (.ref 6)) 5 ⟨heap, gens, drawn, toks, os⟩ ⟨(pyHash (.int k t)).wrap K H gd lv, .body b env, q, [topFrame ⟨0, 0, 0, 0⟩]⟩
theorem primeHash : (fun (_ : Program → World → List Stmt → Env → Heap → Array GenState → Drawn → Nat → OsState → Pos → Int → Tok → (Int → Sem Fin) → (Value → Sem Fin) → (Bool → Bool) → (List Value → List Value) → Option (Shared × Thread)) => true) hashRun = true := by k_qdec
theorem hashRun_b (c : Bool) (w : World) (p : Program) (b : List Stmt) (env : Env) (heap : Heap) (gens : Array GenState) (drawn : Drawn) (toks : Nat) (os : OsState) (q : Pos) (k : Int) (t : Tok) (K : Int → Sem Fin) (H : Value → Sem Fin) (gd : Bool → Bool) (lv : List Value → List Value) :
    hashRun p (w.withFollow "special-get-raises" c) b env heap gens drawn toks os q k t K H gd lv = some (⟨heap, gens, drawn, toks + 1, os⟩, ⟨(pyHashByItsType.reduced (rawHash k)).wrap K H gd lv, .body b env, q, [topFrame ⟨0, 0, 0, 0⟩]⟩) := by
  have e := PySem.W.Fast.te13867340949232533325
  rw [e]
  cases c
  · kernel_rfl
  · kernel_rfl
end Mine
end
section
open PySem PySem.W PyProof.Rows
set_option maxHeartbeats 400000
namespace Mine
/-- a computation at the top, in n steps -/
noncomputable def RT (p : Program) (w : World) (b : List Stmt) (env : Env) {α : Type} (n : Nat) (s : Shared) (q : Pos) (x : Sem α) (s' : Shared) (q' : Pos) (a : α) : Prop :=
  ∀ (K : α → Sem Fin) (H : Value → Sem Fin) (gd : Bool → Bool) (lv : List Value → List Value),
    topGo treeTable p w 11 (some (.ref 6)) n s ⟨x.wrap K H gd lv, .body b env, q, [topFrame ⟨0, 0, 0, 0⟩]⟩ = some (s', ⟨K a, .body b env, q', [topFrame ⟨0, 0, 0, 0⟩]⟩)
section
variable {tb : String → Option Builtin} {p : Program} {w : World} {n₀ : Nat} {ann : Option Value}
/-- the run of n and m steps, as one map after another -/
theorem topGo_first (n : Nat) (s : Shared) (t : Thread) : topGo tb p w n₀ ann (n + 1) s t = (topGo tb p w n₀ ann 1 s t).bind fun r => topGo tb p w n₀ ann n r.1 r.2 := by
  simp only [topGo]
  split
  · rfl
  · split
    · rfl
    · split <;> rfl
theorem topGo_split (m : Nat) : ∀ (n : Nat) (s : Shared) (t : Thread), topGo tb p w n₀ ann (n + m) s t = (topGo tb p w n₀ ann n s t).bind fun r => topGo tb p w n₀ ann m r.1 r.2
  | 0, s, t => by rw [Nat.zero_add]; rfl
  | n + 1, s, t => by
    rw [Nat.add_right_comm n 1 m, topGo_first, topGo_first n, Option.bind_assoc]
    exact congrArg _ (funext fun r => topGo_split m n r.1 r.2)
theorem topGo_add {n m : Nat} {s s₁ : Shared} {t t₁ : Thread} {r : Shared × Thread} (h : topGo tb p w n₀ ann n s t = some (s₁, t₁)) (k : topGo tb p w n₀ ann m s₁ t₁ = some r) : topGo tb p w n₀ ann (n + m) s t = some r := by
  rw [topGo_split, h]; exact k
end
section
variable {p : Program} {w : World} {b : List Stmt} {env : Env} {α β : Type} {n m : Nat} {s s₁ s' : Shared} {q q₁ q' : Pos} {a : α} {r : β}
theorem RT.pure : RT p w b env 0 s q (Sem.pure a) s q a := fun _ _ _ _ => rfl
theorem RT.bind {x : Sem α} {f : α → Sem β} (h : RT p w b env n s q x s₁ q₁ a) (k : RT p w b env m s₁ q₁ (f a) s' q' r) : RT p w b env (n + m) s q (x.bind f) s' q' r := fun K H gd lv => by
  rw [Sem.bind_eq_wrap, Sem.wrap_wrap]
  exact topGo_add (h _ _ _ _) (k K H gd lv)
theorem RT.bind' {x : Sem α} {f : α → Sem β} (h : RT p w b env n s q x s₁ q₁ a) (k : RT p w b env m s₁ q₁ (f a) s' q' r) : RT p w b env (n + m) s q (x >>= f) s' q' r := RT.bind h k
theorem RT.keep {vs : List Value} {x : Sem α} (h : RT p w b env n s q x s' q' a) : RT p w b env n s q (x.keep vs) s' q' a := fun K H gd lv => by
  rw [Sem.keep_eq_wrap, Sem.wrap_wrap]
  exact h _ _ _ _
theorem RT.holding {vs : List Value} {x : Sem α} (h : RT p w b env n s q x s' q' a) : RT p w b env n s q (holding vs x) s' q' a := by
  unfold PySem.holding
  split
  · exact h
  · exact h.keep
theorem RT.onRaise {x : Sem α} {f : Value → Sem Unit} (h : RT p w b env n s q x s' q' a) : RT p w b env n s q (x.onRaise f) s' q' a := fun K H gd lv => by
  rw [Sem.onRaise_eq_wrap, Sem.wrap_wrap]
  exact h _ _ _ _
theorem RT.load {l : Addr} {part : Option Value} {k : Obj → Sem α} {o : Obj} (h : s.heap.get? l = some o) (hk : RT p w b env n s q (k o) s' q' a) : RT p w b env (n + 1) s q (.load l part k) s' q' a := fun K H gd lv => by
  obtain ⟨heap, gens, drawn, toks, os⟩ := s
  have e : step (denote treeTable) p w ⟨heap, gens, drawn, toks, os⟩ ⟨(Sem.load l part k).wrap K H gd lv, .body b env, q, [topFrame ⟨0, 0, 0, 0⟩]⟩ = .go ⟨heap, gens, drawn, toks, os⟩ ⟨(k o).wrap K H gd lv, .body b env, q, [topFrame ⟨0, 0, 0, 0⟩]⟩ := by
    simp only [Sem.wrap, step]; rw [h]
  unfold topGo
  rw [show through ⟨(Sem.load l part k).wrap K H gd lv, .body b env, q, [topFrame ⟨0, 0, 0, 0⟩]⟩ = false from rfl, show stepOk 11 (some (.ref 6)) ⟨(Sem.load l part k).wrap K H gd lv, .body b env, q, [topFrame ⟨0, 0, 0, 0⟩]⟩ = true from rfl, e]
  exact hk K H gd lv
theorem RT.update {l : Addr} {part : Option Value} {f : Obj → Obj} {k : Unit → Sem α} {o : Obj} (h : s.heap.get? l = some o) (hl : Nat.ble 11 l = true) (hk : RT p w b env n { s with heap := s.heap.update l f } q (k ()) s' q' a) : RT p w b env (n + 1) s q (.update l part f k) s' q' a := fun K H gd lv => by
  obtain ⟨heap, gens, drawn, toks, os⟩ := s
  have e : step (denote treeTable) p w ⟨heap, gens, drawn, toks, os⟩ ⟨(Sem.update l part f k).wrap K H gd lv, .body b env, q, [topFrame ⟨0, 0, 0, 0⟩]⟩ = .go ⟨heap.update l f, gens, drawn, toks, os⟩ ⟨(k ()).wrap K H gd lv, .body b env, q, [topFrame ⟨0, 0, 0, 0⟩]⟩ := by
    simp only [Sem.wrap, step]; rw [h]; rfl
  unfold topGo
  rw [show through ⟨(Sem.update l part f k).wrap K H gd lv, .body b env, q, [topFrame ⟨0, 0, 0, 0⟩]⟩ = false from rfl, show stepOk 11 (some (.ref 6)) ⟨(Sem.update l part f k).wrap K H gd lv, .body b env, q, [topFrame ⟨0, 0, 0, 0⟩]⟩ = true from by
    show (true && (Nat.ble 11 l || _ || _ || _)) = true
    rw [hl]; rfl, e]
  exact hk K H gd lv
theorem RT.alloc {o : Obj} {k : Addr → Sem α} (hk : RT p w b env n { s with heap := s.heap.push o } q (k s.heap.objs.size) s' q' a) : RT p w b env (n + 1) s q (.alloc o k) s' q' a := fun K H gd lv => by
  obtain ⟨heap, gens, drawn, toks, os⟩ := s
  exact hk K H gd lv
theorem RT.rule {t : String} {k : Unit → Sem α} (hk : RT p w b env n s q (k ()) s' q' a) : RT p w b env (n + 1) s q (.rule t k) s' q' a := fun K H gd lv => by
  obtain ⟨heap, gens, drawn, toks, os⟩ := s
  exact hk K H gd lv
theorem RT.at_ {q₂ : Pos} {k : Unit → Sem α} (hk : RT p w b env n s q₂ (k ()) s' q' a) : RT p w b env (n + 1) s q (.at q₂ k) s' q' a := fun K H gd lv => by
  obtain ⟨heap, gens, drawn, toks, os⟩ := s
  exact hk K H gd lv
theorem RT.fresh {k : Tok → Sem α} (hk : RT p w b env n { s with toks := s.toks + 1 } q (k s.toks) s' q' a) : RT p w b env (n + 1) s q (.fresh k) s' q' a := fun K H gd lv => by
  obtain ⟨heap, gens, drawn, toks, os⟩ := s
  exact hk K H gd lv
theorem RT.hash {k : Int} {t : Tok} : RT p w b env 5 s q (pyHash (.int k t)) { s with toks := s.toks + 1 } q (hashInt k) := fun K H gd lv => by
  obtain ⟨heap, gens, drawn, toks, os⟩ := s
  have h := byRow2 "special-get-raises" (P := fun w => hashRun p w b env heap gens drawn toks os q k t K H gd lv = some (⟨heap, gens, drawn, toks + 1, os⟩, ⟨(pyHashByItsType.reduced (rawHash k)).wrap K H gd lv, .body b env, q, [topFrame ⟨0, 0, 0, 0⟩]⟩))
    (fun w => hashRun_b false w p b env heap gens drawn toks os q k t K H gd lv) (fun w => hashRun_b true w p b env heap gens drawn toks os q k t K H gd lv) w
  have hr := rawHash_range k
  have e : pyHashByItsType.reduced (rawHash k) = Sem.pure (hashInt k) := by
    unfold pyHashByItsType.reduced
    exact if_pos (by rw [decide_eq_true hr.1, decide_eq_true hr.2]; rfl)
  rw [e] at h
  exact h
end
end Mine
end
section
open PySem PySem.W PyProof.Rows
set_option maxHeartbeats 400000
namespace Mine
section
variable {p : Program} {w : World} {b : List Stmt} {env : Env} {α β : Type} {n m : Nat} {s s₁ s' : Shared} {q q₁ q' : Pos} {a : α} {r : β}
theorem dO_push (es : List DictEntry) (e : DictEntry) : Obj.mapDictKeys (·.push e) (dO es) = dO (es ++ [e]) := by
  show (⟨_, _, .dict (es.toArray.push e) (es.length + 1), _⟩ : Obj) = ⟨_, _, .dict (es ++ [e]).toArray (es ++ [e]).length, _⟩
  rw [List.push_toArray, List.length_append]; rfl
/-- one look at an object, whatever is read of it -/
theorem RT.look {l : Addr} {part : Option Value} {f : Obj → Sem α} {o : Obj} (h : s.heap.get? l = some o) (hk : RT p w b env n s q (f o) s' q' a) : RT p w b env (1 + n) s q (loadPart l part >>= f) s' q' a :=
  RT.bind' (n := 0 + 1) (RT.load h RT.pure) hk
theorem RT.dictEntries {d : Addr} {part : Option Value} {es : List DictEntry} (h : s.heap.get? d = some (dO es)) : RT p w b env 1 s q (PySem.dictEntries d part) s q es.toArray := RT.look (n := 0) h RT.pure
theorem RT.dictEpoch {d : Addr} {part : Option Value} {es : List DictEntry} (h : s.heap.get? d = some (dO es)) : RT p w b env 1 s q (PySem.dictEpoch d part) s q es.length := RT.look (n := 0) h RT.pure
theorem RT.updateDictKeys {d : Addr} {part : Option Value} {es : List DictEntry} {e : DictEntry} (h : s.heap.get? d = some (dO es)) (hd : Nat.ble 11 d = true) (hl : es.length < 1000) (hf : ∀ o, (dO es) = o → True := by intros; trivial) :
    RT p w b env 3 s q (PySem.updateDictKeys d (·.push e) part) { s with heap := s.heap.update d (Obj.mapDictKeys (·.push e)) } q () := by
  have h2 : (s.heap.update d (Obj.mapDictKeys (·.push e))).get? d = some (dO (es ++ [e])) := by
    rw [← dO_push]; exact Heap.get?_update_self _ h (by rw [dO_push]; rfl)
  have e3 : (dO (es ++ [e])).data.pastItsLine = none := by
    unfold dO Data.pastItsLine
    refine if_neg ?_
    rw [List.size_toArray, List.length_append, sizeLine_eq]
    simp only [List.length_cons, List.length_nil]; omega
  unfold PySem.updateDictKeys
  refine RT.look (n := 2) h (RT.bind' (n := 0 + 1) (m := 1) (RT.update h hd RT.pure) ?_)
  unfold lookBehind
  refine RT.look (n := 0) h2 ?_
  rw [e3]
  exact RT.pure
theorem RT.dictFind {d : Addr} {es : List DictEntry} {k : Int} {t : Tok} {hs : Int} (h : s.heap.get? d = some (dO es)) (hn : ∀ e ∈ es, e.hash ≠ hs) : RT p w b env 1 s q (PySem.dictFind d (.int k t) hs) s q none := by
  have hp : placesWithHash es.toArray.size (fun i => es.toArray[i]?.map (·.hash)) hs = [] := by
    unfold placesWithHash
    refine List.filter_eq_nil_iff.mpr fun i hi hc => ?_
    have hc' : (es.toArray[i]?.map (·.hash)) = some hs := eq_of_beq hc
    cases he : es.toArray[i]? with
    | none => rw [he] at hc'; cases hc'
    | some e =>
      have hm : e ∈ es := by
        have := Array.mem_of_getElem? he
        simpa using this
      rw [he] at hc'
      exact hn e hm (Option.some.inj hc')
  unfold PySem.dictFind
  refine RT.holding ?_
  refine RT.bind' (n := 1) (m := 0) (RT.dictEntries h) ?_
  dsimp only
  rw [hp]
  exact RT.pure
theorem RT.dictSet {d : Addr} {es : List DictEntry} {k : Int} {t : Tok} {v : Value} (h : s.heap.get? d = some (dO es)) (hd : Nat.ble 11 d = true) (hl : es.length < 1000) (hn : ∀ e ∈ es, e.hash ≠ hashInt k) :
    RT p w b env 10 s q (PySem.dictSet d (.int k t) v) { s with heap := s.heap.update d (Obj.mapDictKeys (·.push ⟨hashInt k, .int k t, v⟩)), toks := s.toks + 1 } q () := by
  unfold PySem.dictSet
  refine RT.holding ?_
  refine RT.bind' (n := 5) (m := 5) RT.hash ?_
  unfold PySem.dictSetHashed
  refine RT.holding ?_
  refine RT.bind' (n := 1) (m := 4) (RT.dictFind (s := { s with toks := s.toks + 1 }) h hn) ?_
  exact RT.bind' (n := 0 + 1) (m := 3) (RT.rule RT.pure) (RT.updateDictKeys (s := { s with toks := s.toks + 1 }) h hd hl)
theorem RT.dictPut {d : Addr} {es : List DictEntry} {k : Int} {t : Tok} {v : Value} {hs : Int} (h : s.heap.get? d = some (dO es)) (hd : Nat.ble 11 d = true) (hl : es.length < 1000) (hn : ∀ e ∈ es, e.hash ≠ hs) :
    RT p w b env 4 s q (PySem.dictPut d hs (.int k t) v) { s with heap := s.heap.update d (Obj.mapDictKeys (·.push ⟨hs, .int k t, v⟩)) } q () := by
  unfold PySem.dictPut
  refine RT.bind' (n := 1) (m := 3) (RT.dictFind h hn) ?_
  exact RT.updateDictKeys h hd hl
end
end Mine
end
section
open PySem PySem.W PyProof.Rows
set_option maxHeartbeats 400000
namespace Mine
/-- the heap with a main dict and those that were merged into it -/
noncomputable def hp (H : Heap) (main : List DictEntry) (subs : List Obj) : Heap := subs.foldl (fun h o => h.push o) (H.push (dO main))
theorem push_update (H : Heap) (o : Obj) (f : Obj → Obj) : (H.push o).update H.objs.size f = H.push (f o) := by
  obtain ⟨objs, life⟩ := H
  show Heap.mk ((objs.push o).modify objs.size f) life = Heap.mk (objs.push (f o)) life
  congr 1
  apply Array.ext_getElem?
  intro i
  rw [Array.getElem?_modify, Array.getElem?_push, Array.getElem?_push]
  by_cases e : i = objs.size
  · subst e; simp
  · simp [e, Ne.symm e]
theorem hp_snoc (H : Heap) (main : List DictEntry) (subs : List Obj) (o : Obj) : (hp H main subs).push o = hp H main (subs ++ [o]) := by
  unfold hp; rw [List.foldl_append]; rfl
theorem size_push (H : Heap) (o : Obj) : (H.push o).objs.size = H.objs.size + 1 := by
  exact Heap.size_push H o
theorem hp_size (H : Heap) (main : List DictEntry) : ∀ subs : List Obj, (hp H main subs).objs.size = H.objs.size + 1 + subs.length := by
  intro subs
  unfold hp
  have : ∀ (h : Heap), (subs.foldl (fun h o => h.push o) h).objs.size = h.objs.size + subs.length := by
    induction subs with
    | nil => intro h; rfl
    | cons o r ih => intro h; rw [List.foldl_cons, ih, size_push, List.length_cons]; omega
  rw [this, size_push]
theorem hp_get (H : Heap) (main : List DictEntry) (subs : List Obj) : (hp H main subs).get? H.objs.size = some (dO main) := by
  unfold hp
  have : ∀ (h : Heap), h.get? H.objs.size = some (dO main) → (subs.foldl (fun h o => h.push o) h).get? H.objs.size = some (dO main) := by
    induction subs with
    | nil => intro h e; exact e
    | cons o r ih => intro h e; exact ih _ (Heap.get?_push_of_some o e)
  exact this _ (Heap.get?_push_size _ rfl)
theorem hp_update (H : Heap) (main : List DictEntry) (subs : List Obj) (e : DictEntry) : (hp H main subs).update H.objs.size (Obj.mapDictKeys (·.push e)) = hp H (main ++ [e]) subs := by
  unfold hp
  have : ∀ (h h' : Heap), H.objs.size < h.objs.size → h.update H.objs.size (Obj.mapDictKeys (·.push e)) = h' → (subs.foldl (fun h o => h.push o) h).update H.objs.size (Obj.mapDictKeys (·.push e)) = subs.foldl (fun h o => h.push o) h' := by
    induction subs with
    | nil => intro h h' _ e; exact e
    | cons o r ih => intro h h' hl e'; exact ih _ _ (by rw [size_push]; omega) (by rw [Heap.update_push h H.objs.size _ o (Nat.ne_of_lt hl), e'])
  exact this _ _ (by rw [size_push]; omega) (by rw [push_update, dO_push])
noncomputable def pairOf (env : Env) (pos : Pos) (r : Row) : Sem Value × Sem Value := (constValue env (.int r.1), do let x ← constValue env (.str r.2); standAt pos; pure x)
section
variable {p : Program} {w : World} {b : List Stmt} {env : Env} {α β : Type} {n m : Nat} {s s₁ s' : Shared} {q q₁ q' pos : Pos} {a : α} {r : β}
theorem rt_key {k : Int} : RT p w b env 1 s q (constValue env (.int k)) { s with toks := s.toks + 1 } q (.int k s.toks) := by
  show RT p w b env (0 + 1) s q (Sem.fresh fun t => Sem.pure (Value.int k t)) _ q _
  exact RT.fresh RT.pure
theorem rt_val {v : Str} : RT p w b env 2 s q (do let x ← constValue env (.str v); standAt pos; pure x : Sem Value) { s with toks := s.toks + 1 } pos (.str v s.toks) := by
  show RT p w b env (0 + 1 + 1) s q (Sem.fresh fun t => Sem.at pos fun _ => Sem.pure (Value.str v t)) _ pos _
  exact RT.fresh (RT.at_ RT.pure)
theorem RT.cast {x : Sem α} {s₂ : Shared} (h : RT p w b env n s q x s' q' a) (e : n = m) (e2 : s' = s₂) : RT p w b env m s q x s₂ q' a := by subst e e2; exact h
/-- a loop over a long display's pairs, when each turn lays one entry -/
theorem rt_fill17 {F : Sem Value × Sem Value → PUnit → Sem (ForInStep PUnit)} {H : Heap} {gens : Array GenState} {drawn : Drawn} {os : OsState}
    (turn : ∀ (r : Row) (es : List DictEntry) (T : Nat), es.length < 1000 → (∀ e ∈ es, e.hash ≠ hashInt r.1) → RT p w b env 13 ⟨H.push (dO es), gens, drawn, T, os⟩ pos (F (pairOf env pos r) PUnit.unit) ⟨H.push (dO (es ++ [⟨hashInt r.1, .int r.1 T, .str r.2 (T + 1)⟩])), gens, drawn, T + 3, os⟩ pos (ForInStep.yield PUnit.unit)) :
    ∀ (rows : List Row) (es : List DictEntry) (T : Nat), es.length + rows.length < 1000 → (es.map (·.hash) ++ rows.map fun r => hashInt r.1).Nodup →
    RT p w b env (13 * rows.length) ⟨H.push (dO es), gens, drawn, T, os⟩ pos (forIn (m := Sem) (rows.map (pairOf env pos)) PUnit.unit F) ⟨H.push (dO (es ++ ent17 T rows)), gens, drawn, T + 3 * rows.length, os⟩ pos PUnit.unit
  | [], es, T, hl, hn => by
    rw [show ent17 T [] = [] from rfl, List.append_nil]
    exact RT.pure
  | r :: rs, es, T, hl, hn => by
    have hn' : ∀ e ∈ es, e.hash ≠ hashInt r.1 := fun e he heq => (List.nodup_append.mp hn).2.2 _ (List.mem_map.mpr ⟨e, he, rfl⟩) _ (.head _) heq
    have ih := rt_fill17 turn rs (es ++ [⟨hashInt r.1, .int r.1 T, .str r.2 (T + 1)⟩]) (T + 3) (by simp only [List.length_append, List.length_cons, List.length_nil] at hl ⊢; omega) (by
      rw [List.map_append, List.append_assoc]; exact hn)
    rw [List.map_cons, List.forIn_cons]
    refine RT.cast (n := 13 + 13 * rs.length) (RT.bind' (turn r es T (by simp only [List.length_cons] at hl; omega) hn') ih) (by rw [List.length_cons]; omega) (by
      rw [show es ++ ent17 T (r :: rs) = (es ++ [⟨hashInt r.1, .int r.1 T, .str r.2 (T + 1)⟩]) ++ ent17 (T + 3) rs by rw [List.append_assoc]; rfl, List.length_cons]
      congr 1; omega)
theorem rt_subDict17 {heap : Heap} {gens : Array GenState} {drawn : Drawn} {os : OsState} {T : Nat} {rows : List Row} (h11 : 11 ≤ heap.objs.size) (h15 : 15 < rows.length) (hl : rows.length < 1000) (hn : (rows.map fun r => hashInt r.1).Nodup) :
    RT p w b env (2 + 13 * rows.length) ⟨heap, gens, drawn, T, os⟩ pos (subDict (rows.map (pairOf env pos))) ⟨heap.push (dO (ent17 T rows)), gens, drawn, T + 3 * rows.length, os⟩ pos heap.objs.size := by
  unfold subDict
  refine RT.cast (n := (0 + 1) + (1 + 13 * rows.length)) (RT.bind' (n := 0 + 1) (s₁ := ⟨heap.push (dO []), gens, drawn, T, os⟩) (q₁ := pos) (a := heap.objs.size) (RT.alloc RT.pure) ?_) (by omega) rfl
  refine RT.cast (n := (1 + 13 * rows.length) + 0) (RT.bind' (n := 1 + 13 * rows.length) (m := 0) (a := PUnit.unit) (RT.holding ?_) RT.pure) (by omega) rfl
  rw [if_neg (by rw [List.length_map]; omega)]
  refine RT.bind' (n := 0 + 1) (m := 13 * rows.length) (RT.rule RT.pure) ?_
  refine RT.bind' (n := 13 * rows.length) (m := 0) (rt_fill17 (fun r es T hl hn => ?_) rows [] T (by simpa using hl) (by simpa using hn)) RT.pure
  refine RT.bind' (n := 1) (m := 12) rt_key (RT.bind' (n := 2) (m := 10) (RT.holding rt_val) ?_)
  refine RT.bind' (n := 10) (m := 0) (RT.holding (RT.cast (RT.dictSet (Heap.get?_push_size _ rfl) (Nat.ble_eq_true_of_le h11) hl hn) rfl ?_)) RT.pure
  rw [← dO_push, ← push_update]
end
end Mine
end
section
open PySem PySem.W PyProof.Rows
set_option maxHeartbeats 400000
namespace Mine
noncomputable def valsOf (T : Nat) : List Row → List (Value × Value)
  | [] => []
  | r :: rs => (.int r.1 T, .str r.2 (T + 1)) :: valsOf (T + 2) rs
section
variable {p : Program} {w : World} {b : List Stmt} {env : Env} {α β : Type} {n m : Nat} {s s₁ s' : Shared} {q q₁ q' pos : Pos} {a : α} {r : β}
theorem rt_evalPairs : ∀ (rows : List Row) (s : Shared), RT p w b env (3 * rows.length) s pos (evalPairs (rows.map (pairOf env pos))) { s with toks := s.toks + 2 * rows.length } pos (valsOf s.toks rows)
  | [], s => by
    exact RT.pure
  | r :: rs, s => by
    have ih := rt_evalPairs rs { s with toks := s.toks + 1 + 1 }
    rw [List.map_cons]
    unfold evalPairs
    refine RT.cast (n := 1 + (2 + (3 * rs.length + 0))) (s' := { s with toks := s.toks + 1 + 1 + 2 * rs.length }) ?_ (by rw [List.length_cons]; omega) (by rw [List.length_cons]; congr 1; omega)
    refine RT.bind' (n := 1) (m := 2 + (3 * rs.length + 0)) rt_key ?_
    refine RT.bind' (n := 2) (m := 3 * rs.length + 0) (RT.holding rt_val) ?_
    exact RT.bind' (n := 3 * rs.length) (m := 0) (RT.holding ih) RT.pure
/-- a loop over a short display's pairs, when each turn lays one entry -/
theorem rt_sets {F : Value × Value → PUnit → Sem (ForInStep PUnit)} {H : Heap} {gens : Array GenState} {drawn : Drawn} {os : OsState}
    (turn : ∀ (k : Int) (t : Tok) (v : Value) (es : List DictEntry) (T' : Nat), es.length < 1000 → (∀ e ∈ es, e.hash ≠ hashInt k) → RT p w b env 10 ⟨H.push (dO es), gens, drawn, T', os⟩ pos (F (.int k t, v) PUnit.unit) ⟨H.push (dO (es ++ [⟨hashInt k, .int k t, v⟩])), gens, drawn, T' + 1, os⟩ pos (ForInStep.yield PUnit.unit)) :
    ∀ (rows : List Row) (es : List DictEntry) (T T' : Nat), es.length + rows.length < 1000 → (es.map (·.hash) ++ rows.map fun r => hashInt r.1).Nodup →
    RT p w b env (10 * rows.length) ⟨H.push (dO es), gens, drawn, T', os⟩ pos (forIn (m := Sem) (valsOf T rows) PUnit.unit F) ⟨H.push (dO (es ++ ent4 T rows)), gens, drawn, T' + rows.length, os⟩ pos PUnit.unit
  | [], es, T, T', hl, hn => by
    rw [show ent4 T [] = [] from rfl, List.append_nil]
    exact RT.pure
  | r :: rs, es, T, T', hl, hn => by
    have hn' : ∀ e ∈ es, e.hash ≠ hashInt r.1 := fun e he heq => (List.nodup_append.mp hn).2.2 _ (List.mem_map.mpr ⟨e, he, rfl⟩) _ (.head _) heq
    have ih := rt_sets turn rs (es ++ [⟨hashInt r.1, .int r.1 T, .str r.2 (T + 1)⟩]) (T + 2) (T' + 1) (by simp only [List.length_append, List.length_cons, List.length_nil] at hl ⊢; omega) (by
      rw [List.map_append, List.append_assoc]; exact hn)
    show RT p w b env _ _ pos (forIn (m := Sem) ((.int r.1 T, .str r.2 (T + 1)) :: valsOf (T + 2) rs) PUnit.unit F) _ pos _
    rw [List.forIn_cons]
    refine RT.cast (n := 10 + 10 * rs.length) (RT.bind' (n := 10) (turn r.1 T (.str r.2 (T + 1)) es T' (by simp only [List.length_cons] at hl; omega) hn') ih) (by rw [List.length_cons]; omega) (by
      rw [show es ++ ent4 T (r :: rs) = (es ++ [⟨hashInt r.1, .int r.1 T, .str r.2 (T + 1)⟩]) ++ ent4 (T + 2) rs by rw [List.append_assoc]; rfl, List.length_cons]
      congr 1; omega)
theorem rt_subDict4 {heap : Heap} {gens : Array GenState} {drawn : Drawn} {os : OsState} {T : Nat} {rows : List Row} (h11 : 11 ≤ heap.objs.size) (h15 : rows.length ≤ 15) (hn : (rows.map fun r => hashInt r.1).Nodup) :
    RT p w b env (1 + 13 * rows.length) ⟨heap, gens, drawn, T, os⟩ pos (subDict (rows.map (pairOf env pos))) ⟨heap.push (dO (ent4 T rows)), gens, drawn, T + 3 * rows.length, os⟩ pos heap.objs.size := by
  have h2 := rt_evalPairs (p := p) (w := w) (b := b) (env := env) (pos := pos) rows ⟨heap.push (dO []), gens, drawn, T, os⟩
  unfold subDict
  refine RT.cast (n := (0 + 1) + (13 * rows.length + 0)) (RT.bind' (n := 0 + 1) (s₁ := ⟨heap.push (dO []), gens, drawn, T, os⟩) (q₁ := pos) (a := heap.objs.size) (RT.alloc RT.pure) ?_) (by omega) rfl
  refine RT.bind' (n := 13 * rows.length) (m := 0) (a := PUnit.unit) (RT.holding ?_) RT.pure
  rw [if_pos (by rw [List.length_map]; omega)]
  refine RT.cast (n := 3 * rows.length + (10 * rows.length + 0)) (RT.bind' h2 (RT.holding (RT.bind' (n := 10 * rows.length) (m := 0) (rt_sets (H := heap) (gens := gens) (drawn := drawn) (os := os) (fun k t v es T' hl hn => ?_) rows [] T (T + 2 * rows.length) (by simp only [List.length_nil]; omega) (by simpa using hn)) RT.pure))) (by omega) ?_
  · refine RT.bind' (n := 10) (m := 0) (RT.cast (RT.dictSet (Heap.get?_push_size _ rfl) (Nat.ble_eq_true_of_le h11) hl hn) rfl ?_) RT.pure
    rw [← dO_push, ← push_update]
  · congr 1; omega
/-- a loop over the places of the dict to be merged, when each turn carries one entry over -/
theorem rt_merges {F : Nat → PUnit → Sem (ForInStep PUnit)} {H : Heap} {gens : Array GenState} {drawn : Drawn} {os : OsState} {T : Nat} {es : List DictEntry} {subs : List Obj}
    (turn : ∀ (i : Nat) (e : DictEntry) (main : List DictEntry), es[i]? = some e → main.length < 1000 → (∀ e' ∈ main, e'.hash ≠ e.hash) → RT p w b env 6 ⟨hp H main (subs ++ [dO es]), gens, drawn, T, os⟩ q (F i PUnit.unit) ⟨hp H (main ++ [e]) (subs ++ [dO es]), gens, drawn, T, os⟩ q (ForInStep.yield PUnit.unit)) :
    ∀ (rest pre main : List DictEntry), es = pre ++ rest → main.length + rest.length < 1000 → (main.map (·.hash) ++ rest.map (·.hash)).Nodup →
    RT p w b env (6 * rest.length) ⟨hp H main (subs ++ [dO es]), gens, drawn, T, os⟩ q (forIn (m := Sem) (List.range' pre.length rest.length) PUnit.unit F) ⟨hp H (main ++ rest) (subs ++ [dO es]), gens, drawn, T, os⟩ q PUnit.unit
  | [], pre, main, he, hl, hn => by
    rw [List.append_nil]
    exact RT.pure
  | e :: rest, pre, main, he, hl, hn => by
    have hn' : ∀ e' ∈ main, e'.hash ≠ e.hash := fun e' he' heq => (List.nodup_append.mp hn).2.2 _ (List.mem_map.mpr ⟨e', he', rfl⟩) _ (.head _) heq
    have hi : es[pre.length]? = some e := by rw [he, List.getElem?_append_right (Nat.le_refl _), Nat.sub_self]; rfl
    have ih := rt_merges turn rest (pre ++ [e]) (main ++ [e]) (by rw [he, List.append_assoc]; rfl) (by simp only [List.length_append, List.length_cons, List.length_nil] at hl ⊢; omega) (by
      rw [List.map_append, List.append_assoc]; exact hn)
    rw [show (pre ++ [e]).length = pre.length + 1 by simp] at ih
    rw [show List.range' pre.length (e :: rest).length = pre.length :: List.range' (pre.length + 1) rest.length from rfl, List.forIn_cons]
    refine RT.cast (n := 6 + 6 * rest.length) (RT.bind' (n := 6) (turn pre.length e main hi (by simp only [List.length_cons] at hl; omega) hn') ih) (by rw [List.length_cons]; omega) (by rw [List.append_assoc]; rfl)
theorem rt_typeOf {d : Addr} {es : List DictEntry} (h : s.heap.get? d = some (dO es)) : RT p w b env 1 s q (typeOf (.ref d)) s q (.type "dict") := by
  show RT p w b env (0 + 1) _ q (Sem.load d (some headPart) fun o => Sem.pure o.cls) _ q _
  exact RT.load h RT.pure
theorem rt_merge {H : Heap} {gens : Array GenState} {drawn : Drawn} {os : OsState} {T : Nat} {main es : List DictEntry} {subs : List Obj} {sub : Addr} (h11 : 11 ≤ H.objs.size) (hs : sub = H.objs.size + 1 + subs.length) (hne : main ≠ []) (hk : ∀ e ∈ es, ∃ k t, e.key = .int k t)
    (hl : main.length + es.length < 1000) (hn : (main.map (·.hash) ++ es.map (·.hash)).Nodup) :
    RT p w b env (5 + 6 * es.length) ⟨hp H main (subs ++ [dO es]), gens, drawn, T, os⟩ q (mergeMapping H.objs.size (.ref sub) false) ⟨hp H (main ++ es) (subs ++ [dO es]), gens, drawn, T, os⟩ q () := by
  have hg : ∀ x : List DictEntry, (hp H x (subs ++ [dO es])).get? sub = some (dO es) := fun x => by
    rw [hs, ← hp_size H x subs, ← hp_snoc]
    exact Heap.get?_push_size _ rfl
  have hsys : (sub == sysModules) = false := by
    apply beq_eq_false_iff_ne.mpr
    intro e
    have e' : @Eq Nat sub 1 := e
    have hs' : @Eq Nat sub (H.objs.size + 1 + subs.length) := hs
    omega
  unfold mergeMapping
  refine RT.cast (n := 1 + (1 + (3 + 6 * es.length))) (RT.bind' (n := 1) (m := 1 + (3 + 6 * es.length)) (s₁ := ⟨hp H main (subs ++ [dO es]), gens, drawn, T, os⟩) (q₁ := q) (a := true) ?_ ?_) (by omega) rfl
  · unfold isInstance
    refine RT.bind' (n := 1) (m := 0) (rt_typeOf (hg main)) ?_
    rw [isSubtype_dict_dict]; exact RT.pure
  · dsimp only
    rw [if_pos rfl]
    refine RT.bind' (n := 1) (m := 3 + 6 * es.length) (s₁ := ⟨hp H main (subs ++ [dO es]), gens, drawn, T, os⟩) (q₁ := q) (a := some (.builtin "dict.__iter__")) ?_ ?_
    · unfold specialOf
      refine RT.bind' (n := 1) (m := 0) (rt_typeOf (hg main)) ?_
      rw [F.slot_dict_iter.lookup]; exact RT.pure
    · have hb : (some (Value.builtin "dict.__iter__") == some (Value.builtin "dict.__iter__")) = true := beq_self_eq_true _
      rw [hb]
      refine RT.cast (n := 0 + (3 + 6 * es.length)) (RT.bind' (n := 0) (m := 3 + 6 * es.length) RT.pure ?_) (by omega) rfl
      dsimp only
      rw [if_neg (by rw [hsys]; exact Bool.false_ne_true)]
      refine RT.cast (n := 1 + (2 + 6 * es.length)) (RT.bind' (n := 1) (m := 2 + 6 * es.length) (RT.dictEntries (hp_get H main _)) ?_) (by omega) rfl
      have he : main.toArray.isEmpty = false := by
        cases main with
        | nil => exact absurd rfl hne
        | cons x y => rfl
      rw [he]
      rw [if_neg Bool.false_ne_true]
      refine RT.cast (n := 1 + (1 + (6 * es.length + 0))) (RT.bind' (n := 1) (m := 1 + (6 * es.length + 0)) (RT.dictEntries (hg main)) ?_) (by omega) rfl
      refine RT.bind' (n := 1) (m := 6 * es.length + 0) (RT.dictEpoch (hg main)) ?_
      refine RT.bind' (n := 6 * es.length) (m := 0) (a := PUnit.unit) ?_ RT.pure
      rw [show List.range es.toArray.size = List.range' 0 es.length by rw [List.size_toArray, List.range_eq_range']]
      refine rt_merges (fun i e x hi hx hne' => ?_) es [] main rfl hl hn
      obtain ⟨hh, ek, ev⟩ := e
      obtain ⟨k, t, hek⟩ := hk _ (List.mem_of_getElem? hi)
      obtain rfl : ek = .int k t := hek
      refine RT.bind' (n := 1) (m := 5) (RT.dictEntries (hg x)) ?_
      rw [List.getElem?_toArray, hi]
      refine RT.bind' (n := 4) (m := 1) (RT.holding (RT.cast (RT.dictPut (hp_get H x _) (Nat.ble_eq_true_of_le h11) hx hne') rfl (congrArg (fun y => Shared.mk y gens drawn T os) (hp_update H x _ _)))) ?_
      refine RT.bind' (n := 1) (m := 0) (RT.dictEpoch (hg _)) ?_
      rw [if_neg (by simp)]
      exact RT.pure
end
end Mine
end
section
open PySem PySem.W PyProof.Rows
set_option maxHeartbeats 400000
namespace Mine
noncomputable abbrev Run := List (Sem Value × Sem Value)
noncomputable def itemOf (env : Env) (pos : Pos) (r : Row) : Option (Sem Value) × Sem Value := (some (pairOf env pos r).1, (pairOf env pos r).2)
theorem ent17_hash : ∀ (c : List Row) (T : Nat), (ent17 T c).map (·.hash) = c.map fun r => hashInt r.1
  | [], _ => rfl
  | r :: c, T => by show _ :: _ = _ :: _; rw [ent17_hash c]
theorem ent17_len : ∀ (c : List Row) (T : Nat), (ent17 T c).length = c.length
  | [], _ => rfl
  | r :: c, T => by show _ + 1 = _ + 1; rw [ent17_len c]
theorem ent17_key : ∀ (c : List Row) (T : Nat), ∀ e ∈ ent17 T c, ∃ k t, e.key = .int k t
  | [], _, e, h => nomatch h
  | r :: c, T, e, h => by
    rcases List.mem_cons.mp h with rfl | h
    · exact ⟨_, _, rfl⟩
    · exact ent17_key c _ e h
theorem ent4_hash : ∀ (c : List Row) (T : Nat), (ent4 T c).map (·.hash) = c.map fun r => hashInt r.1
  | [], _ => rfl
  | r :: c, T => by show _ :: _ = _ :: _; rw [ent4_hash c]
theorem ent4_len : ∀ (c : List Row) (T : Nat), (ent4 T c).length = c.length
  | [], _ => rfl
  | r :: c, T => by show _ + 1 = _ + 1; rw [ent4_len c]
theorem ent4_key : ∀ (c : List Row) (T : Nat), ∀ e ∈ ent4 T c, ∃ k t, e.key = .int k t
  | [], _, e, h => nomatch h
  | r :: c, T, e, h => by
    rcases List.mem_cons.mp h with rfl | h
    · exact ⟨_, _, rfl⟩
    · exact ent4_key c _ e h
section
variable {p : Program} {w : World} {b : List Stmt} {env : Env} {α β : Type} {n m : Nat} {s s₁ s' : Shared} {q q₁ q' pos : Pos} {a : α} {r : β}
noncomputable abbrev LoopF := Option (Sem Value) × Sem Value → Option Addr × Run → Sem (ForInStep (Option Addr × Run))
/-- below the seventeenth a turn only lays its pair by -/
noncomputable def Gathers (env : Env) (pos : Pos) (F : LoopF) : Prop := ∀ (x : Row) (r : List Row) (main : Option Addr), r.length < 16 → F (itemOf env pos x) (main, r.map (pairOf env pos)) = Sem.pure (ForInStep.yield (main, (r ++ [x]).map (pairOf env pos)))
theorem loop_short {F : LoopF} (hF : Gathers env pos F) (rest : List (Option (Sem Value) × Sem Value)) (main : Option Addr) : ∀ (c r : List Row), r.length + c.length < 17 →
    forIn (m := Sem) (c.map (itemOf env pos) ++ rest) (main, r.map (pairOf env pos)) F = forIn (m := Sem) rest (main, (r ++ c).map (pairOf env pos)) F
  | [], r, h => by rw [List.append_nil]; rfl
  | x :: c, r, h => by
    rw [List.length_cons] at h
    have ih := loop_short hF rest main c (r ++ [x]) (by rw [List.length_append, List.length_singleton]; omega)
    rw [List.map_cons, List.cons_append, List.forIn_cons, hF x r main (by omega), List.append_cons r x c, ← ih]
    rfl
/-- sixteen pairs that are laid by, and a turn that lays them and its own -/
theorem rt_chunk {F : LoopF} (hF : Gathers env pos F) {rest : List (Option (Sem Value) × Sem Value)} {main m₁ : Option Addr} {c : List Row} {x : Row} (hc : c.length = 16) {z : Option Addr × Run} (hf : RT p w b env n s q (F (itemOf env pos x) (main, c.map (pairOf env pos))) s₁ q₁ (ForInStep.yield (m₁, [])))
    (hr : RT p w b env m s₁ q₁ (forIn (m := Sem) rest (m₁, []) F) s' q' z) : RT p w b env (n + m) s q (forIn (m := Sem) ((c ++ [x]).map (itemOf env pos) ++ rest) (main, []) F) s' q' z := by
  have h1 := loop_short hF (itemOf env pos x :: rest) main c [] (by rw [List.length_nil]; omega)
  rw [List.map_append, List.append_assoc]
  show RT p w b env (n + m) s q (forIn (m := Sem) (c.map (itemOf env pos) ++ (itemOf env pos x :: rest)) (main, List.map (pairOf env pos) []) F) s' q' z
  rw [h1, List.forIn_cons]
  exact RT.bind' hf hr
theorem last_row : ∀ {c : List Row} {k : Nat}, c.length = k + 1 → ∃ c' x, c = c' ++ [x] ∧ c'.length = k := fun {c} {k} h => by
  rcases List.eq_nil_or_concat c with rfl | ⟨c', x, rfl⟩
  · cases h
  · rw [List.concat_eq_append, List.length_append, List.length_singleton] at h
    exact ⟨c', x, List.concat_eq_append, by omega⟩
theorem rt_chunks {F : LoopF} (hF : Gathers env pos F) {rest : List (Option (Sem Value) × Sem Value)} {H : Heap} {gens : Array GenState} {drawn : Drawn} {os : OsState} {s' : Shared} {z : Option Addr × Run}
    (full : ∀ (main : List DictEntry) (subs : List Obj) (T : Nat) (c : List Row) (x : Row), c.length = 16 → main ≠ [] → main.length + 17 < 1000 → (main.map (·.hash) ++ (c ++ [x]).map fun r => hashInt r.1).Nodup →
      RT p w b env 330 ⟨hp H main subs, gens, drawn, T, os⟩ pos (F (itemOf env pos x) (some H.objs.size, c.map (pairOf env pos))) ⟨hp H (main ++ ent17 T (c ++ [x])) (subs ++ [dO (ent17 T (c ++ [x]))]), gens, drawn, T + 51, os⟩ pos (ForInStep.yield (some H.objs.size, []))) :
    ∀ (cs : List (List Row)) (main : List DictEntry) (subs : List Obj) (T : Nat), main ≠ [] → (∀ c ∈ cs, c.length = 17) → main.length + cs.flatten.length < 1000 → (main.map (·.hash) ++ cs.flatten.map fun r => hashInt r.1).Nodup →
      RT p w b env m ⟨hp H (main ++ ents T cs) (subs ++ subsOf T cs), gens, drawn, T + 51 * cs.length, os⟩ pos (forIn (m := Sem) rest (some H.objs.size, []) F) s' q' z →
      RT p w b env (330 * cs.length + m) ⟨hp H main subs, gens, drawn, T, os⟩ pos (forIn (m := Sem) (cs.flatten.map (itemOf env pos) ++ rest) (some H.objs.size, []) F) s' q' z
  | [], main, subs, T, hne, h17, hl, hn, hr => by
    rw [show ents T [] = [] from rfl, show subsOf T [] = [] from rfl, List.append_nil, List.append_nil] at hr
    exact RT.cast hr (by rw [List.length_nil]; omega) rfl
  | c :: cs, main, subs, T, hne, h17, hl, hn, hr => by
    obtain ⟨c', x, rfl, hc⟩ := last_row (h17 c (.head _))
    rw [List.flatten_cons, List.length_append] at hl
    rw [List.flatten_cons, List.map_append, ← List.append_assoc] at hn
    have h1 : (c' ++ [x]).length = 17 := h17 _ (.head _)
    have ih : RT p w b env (330 * cs.length + m) ⟨hp H (main ++ ent17 T (c' ++ [x])) (subs ++ [dO (ent17 T (c' ++ [x]))]), gens, drawn, T + 51, os⟩ pos (forIn (m := Sem) (cs.flatten.map (itemOf env pos) ++ rest) (some H.objs.size, []) F) s' q' z :=
      rt_chunks hF full cs (main ++ ent17 T (c' ++ [x])) (subs ++ [dO (ent17 T (c' ++ [x]))]) (T + 51) (by simp [hne]) (fun y hy => h17 y (.tail _ hy)) (by rw [List.length_append, ent17_len]; omega) (by rw [List.map_append, ent17_hash]; exact hn) (by
        rw [List.append_assoc, List.append_assoc, show T + 51 + 51 * cs.length = T + 51 * ((c' ++ [x]) :: cs).length by rw [List.length_cons]; omega]
        exact hr)
    rw [List.flatten_cons, List.map_append, List.append_assoc]
    exact RT.cast (rt_chunk hF hc (full main subs T c' x hc hne (by omega) (List.nodup_append.mp hn).1) ih) (by rw [List.length_cons]; omega) rfl
theorem rt_tail {F : LoopF} (hF : Gathers env pos F) {main : Option Addr} {tl : List Row} (h : tl.length < 17) : RT p w b env 0 s q (forIn (m := Sem) (tl.map (itemOf env pos)) (main, []) F) s q (main, tl.map (pairOf env pos)) := by
  have h1 := loop_short (env := env) (pos := pos) hF [] main tl [] (by rw [List.length_nil]; omega)
  rw [List.append_nil, List.nil_append] at h1
  exact (show forIn (m := Sem) (tl.map (itemOf env pos)) (main, []) F = _ from h1) ▸ RT.pure
theorem rt_display {H : Heap} {gens : Array GenState} {drawn : Drawn} {os : OsState} {T : Nat} (c₀ : List Row) (cs : List (List Row)) (tl : List Row) (h11 : 11 ≤ H.objs.size) (h0 : c₀.length = 17) (h17 : ∀ c ∈ cs, c.length = 17) (ht : tl.length ≤ 15) (htn : tl ≠ [])
    (hl : 17 + cs.flatten.length + tl.length < 1000) (hn : ((c₀ ++ (cs.flatten ++ tl)).map fun r => hashInt r.1).Nodup) :
    RT p w b env (223 + (330 * cs.length + (6 + 19 * tl.length))) ⟨H, gens, drawn, T, os⟩ pos (dictDisplay ((c₀ ++ (cs.flatten ++ tl)).map (itemOf env pos)))
      ⟨hp H (ent17 T c₀ ++ ents (T + 51) cs ++ ent4 (T + 51 + 51 * cs.length) tl) (subsOf (T + 51) cs ++ [dO (ent4 (T + 51 + 51 * cs.length) tl)]), gens, drawn, T + 51 + 51 * cs.length + 3 * tl.length, os⟩ pos (.ref H.objs.size) := by
  rw [List.map_append, List.map_append] at hn
  have hn0 := (List.nodup_append.mp hn).1
  have hent : ∀ T, (ents T cs).map (·.hash) = cs.flatten.map fun r => hashInt r.1 := by
    clear hn hl h17
    induction cs with
    | nil => intro T; rfl
    | cons c cs ih => intro T; rw [List.flatten_cons, List.map_append, ← ih (T + 51), ← ent17_hash c T, ← List.map_append]; rfl
  have hentl : ∀ T, (ents T cs).length = cs.flatten.length := fun T => by
    have := congrArg List.length (hent T)
    rw [List.length_map, List.length_map] at this
    exact this
  have hmn : ent17 T c₀ ++ ents (T + 51) cs ≠ [] := fun e => by
    have h := congrArg List.length e
    rw [List.length_append, ent17_len, h0, List.length_nil] at h
    omega
  have hlen : (ent17 T c₀ ++ ents (T + 51) cs).length = 17 + cs.flatten.length := by rw [List.length_append, ent17_len, h0, hentl]
  have hall : ((ent17 T c₀ ++ ents (T + 51) cs).map (·.hash) ++ tl.map fun r => hashInt r.1).Nodup := by
    rw [List.map_append, ent17_hash, hent, List.append_assoc]; exact hn
  unfold dictDisplay
  extract_lets flush none₀ nil₀
  -- the first seventeen are the dict itself; what follows is made apart and merged
  have first : ∀ c : List Row, c.length = 17 → (c.map fun r => hashInt r.1).Nodup → RT p w b env 223 ⟨H, gens, drawn, T, os⟩ pos (flush (c.map (pairOf env pos)) none) ⟨hp H (ent17 T c) [], gens, drawn, T + 51, os⟩ pos (some H.objs.size) := by
    intro c hc hcn
    dsimp only [flush]
    rw [if_neg (by cases c with | nil => cases hc | cons x y => simp)]
    refine RT.bind' (n := 223) (m := 0) (RT.cast (rt_subDict17 h11 (by omega) (by omega) hcn) (by omega) ?_) RT.pure
    rw [hc]; rfl
  have later : ∀ {T k : Nat} {main es : List DictEntry} {subs : List Obj} {c : List Row}, main ≠ [] → c ≠ [] → es.map (·.hash) = c.map (fun r => hashInt r.1) → es.length = c.length → (∀ e ∈ es, ∃ k t, e.key = .int k t) → main.length + c.length < 1000 →
      (main.map (·.hash) ++ c.map fun r => hashInt r.1).Nodup → RT p w b env k ⟨hp H main subs, gens, drawn, T, os⟩ pos (subDict (c.map (pairOf env pos))) ⟨(hp H main subs).push (dO es), gens, drawn, T + 3 * c.length, os⟩ pos (hp H main subs).objs.size →
      RT p w b env (k + (5 + 6 * c.length)) ⟨hp H main subs, gens, drawn, T, os⟩ pos (flush (c.map (pairOf env pos)) (some H.objs.size)) ⟨hp H (main ++ es) (subs ++ [dO es]), gens, drawn, T + 3 * c.length, os⟩ pos (some H.objs.size) := by
    intro T k main es subs c hne hc hes hel hek hl hn hsub
    rw [hp_snoc] at hsub
    rw [← hes] at hn
    rw [← hel] at hl ⊢
    dsimp only [flush]
    rw [if_neg (by cases c with | nil => exact absurd rfl hc | cons x y => simp)]
    rw [hel]
    refine RT.bind' (n := k) (m := 5 + 6 * c.length) (RT.holding hsub) ?_
    rw [← hel]
    exact RT.bind' (n := 5 + 6 * es.length) (m := 0) (RT.onRaise (RT.holding (rt_merge h11 (hp_size H main subs) hne hek hl hn))) RT.pure
  refine RT.cast (n := (223 + (330 * cs.length + 0)) + ((1 + 13 * tl.length + (5 + 6 * tl.length)) + 0)) (RT.bind' (n := 223 + (330 * cs.length + 0)) (a := (some H.objs.size, tl.map (pairOf env pos))) (q₁ := pos) (s₁ := ⟨hp H (ent17 T c₀ ++ ents (T + 51) cs) (subsOf (T + 51) cs), gens, drawn, T + 51 + 51 * cs.length, os⟩) ?_ ?_) (by omega) rfl
  · rw [List.map_append, List.map_append]
    obtain ⟨c', x, rfl, hc'⟩ := last_row h0
    have below : ∀ r : List Row, ∀ x : Row, r.map (pairOf env pos) ++ [((pairOf env pos x).1, (pairOf env pos x).2)] = (r ++ [x]).map (pairOf env pos) := fun r x => by rw [List.map_append]; rfl
    have stay : ∀ {r : List Row} {x : Row}, r.length < 16 → ¬ (((r ++ [x]).map (pairOf env pos)).length == 17) = true := fun {r} {x} h e => by
      rw [List.length_map, List.length_append, List.length_singleton] at e
      have := eq_of_beq e
      omega
    have flow : ∀ {r : List Row} {x : Row}, r.length = 16 → (((r ++ [x]).map (pairOf env pos)).length == 17) = true := fun {r} {x} h => by
      rw [List.length_map, List.length_append, List.length_singleton, h]; rfl
    refine rt_chunk (F := _) (fun x r main hr => ?g) hc' ?one (rt_chunks ?g2 (fun main subs T c x hc hne hl hn => ?full) cs (ent17 T (c' ++ [x])) [] (T + 51) (fun e => by have := congrArg List.length e; rw [ent17_len, h0] at this; cases this) h17 (by rw [ent17_len, h0]; omega) (by
      rw [ent17_hash]
      rw [← List.append_assoc] at hn
      exact (List.nodup_append.mp hn).1) (rt_tail ?g3 (by omega)))
    case g =>
      dsimp only [itemOf]
      rw [below, if_neg (stay hr)]
      rfl
    case g2 =>
      intro x r main hr
      dsimp only [itemOf]
      rw [below, if_neg (stay hr)]
      rfl
    case g3 =>
      intro x r main hr
      dsimp only [itemOf]
      rw [below, if_neg (stay hr)]
      rfl
    case one =>
      dsimp only [itemOf]
      rw [below, if_pos (flow hc')]
      exact RT.bind' (n := 223) (m := 0) (first _ h0 hn0) RT.pure
    case full =>
      have h2 : (c ++ [x]).length = 17 := by rw [List.length_append, List.length_singleton, hc]
      dsimp only [itemOf]
      rw [below, if_pos (flow hc)]
      refine RT.bind' (n := 330) (m := 0) (RT.cast (later hne (by simp) (ent17_hash _ T) (ent17_len _ T) (ent17_key _ T) (by omega) hn (rt_subDict17 (by rw [hp_size]; omega) (by omega) (by omega) (List.nodup_append.mp hn).2.1)) (by rw [h2]) (by rw [h2])) RT.pure
  · exact RT.bind' (later hmn htn (ent4_hash tl (T + 51 + 51 * cs.length)) (ent4_len tl _) (ent4_key tl _) (by rw [hlen]; exact hl) hall (rt_subDict4 (by rw [hp_size]; omega) ht (List.nodup_append.mp hall).2.1)) RT.pure
end
end Mine
end
section
open PySem PySem.W PyProof.Rows
set_option maxHeartbeats 400000
namespace Mine
theorem stm13_eq : stm 13 = .Assign [.Name (Str.ofString "b3_exceptions") ⟨122, 0, 122, 13⟩] (.Dict b3K b3W b3P) b3Q := by kernel_rfl
noncomputable def isI : Option Expr → Bool
  | some (.Constant (.int _) _ _) => true
  | _ => false
noncomputable def isS : Expr → Bool
  | .Constant (.str _) _ _ => true
  | _ => false
theorem evalKeys (env : Env) : ∀ ks : List (Option Expr), ks.all isI = true → evalEachOpt ks env = ks.map fun k => some (constValue env (.int (kInt k)))
  | [], _ => rfl
  | k :: ks, h => by
    rw [List.all_cons, Bool.and_eq_true] at h
    have ih := evalKeys env ks h.2
    show evalOpt k env :: evalEachOpt ks env = some (constValue env (.int (kInt k))) :: _
    rw [ih]
    congr 1
    have hk := h.1
    unfold isI at hk
    split at hk
    · rfl
    · cases hk
theorem evalVals (env : Env) : ∀ vs : List Expr, vs.all isS = true → evalEach vs env = vs.map fun v => constValue env (.str (vStr v))
  | [], _ => rfl
  | v :: vs, h => by
    rw [List.all_cons, Bool.and_eq_true] at h
    have ih := evalVals env vs h.2
    show eval v env :: evalEach vs env = constValue env (.str (vStr v)) :: _
    rw [ih]
    congr 1
    have hk := h.1
    unfold isS at hk
    split at hk
    · rfl
    · cases hk
theorem zip_items (env : Env) (pos : Pos) : ∀ (ks : List (Option Expr)) (vs : List Expr), (ks.map fun k => some (constValue env (.int (kInt k)))).zip ((vs.map fun v => constValue env (.str (vStr v))).map fun v => (do let x ← v; standAt pos; pure x)) = ((ks.map kInt).zip (vs.map vStr)).map (itemOf env pos)
  | [], vs => rfl
  | k :: ks, [] => rfl
  | k :: ks, v :: vs => by
    exact congrArg (List.cons (itemOf env pos (kInt k, vStr v))) (zip_items env pos ks vs)
theorem b3K_ok : b3K.all isI = true := by kernel_rfl
theorem b3W_ok : b3W.all isS = true := by kernel_rfl
theorem take_drop_all {α : Type} (l : List α) (n : Nat) : ∀ (j k : Nat), ((List.range' k j).map fun i => (l.drop (n * i)).take n).flatten ++ l.drop (n * (k + j)) = l.drop (n * k)
  | 0, k => by simp
  | j + 1, k => by
    rw [List.range'_succ, List.map_cons, List.flatten_cons, List.append_assoc, show k + (j + 1) = k + 1 + j by omega, take_drop_all l n j (k + 1), Nat.mul_add, Nat.mul_one, ← List.drop_drop, List.take_append_drop]
theorem b3_split : b3Rows = b3Chunk 0 ++ (b3Cs.flatten ++ b3Tl) := by
  have h1 := take_drop_all b3Rows 17 37 1
  have h0 : b3Rows = b3Chunk 0 ++ b3Rows.drop 17 := by
    show b3Rows = List.take 17 (b3Rows.drop (17 * 0)) ++ b3Rows.drop 17
    rw [Nat.mul_zero, List.drop_zero, List.take_append_drop]
  conv => lhs; rw [h0]
  exact congrArg (b3Chunk 0 ++ ·) h1.symm
theorem b3_len : b3Rows.length = 650 := by kernel_rfl
theorem b3_chunk (k : Nat) (h : k < 38) : (b3Chunk k).length = 17 := by
  unfold b3Chunk
  rw [List.length_take, List.length_drop, b3_len]; omega
theorem b3_tl : b3Tl.length = 4 := by
  unfold b3Tl
  rw [List.length_drop, b3_len]
/-- a list of ints that grows from n on, below 10 ^ 9 -/
noncomputable def rises : Int → List Int → Bool
  | _, [] => true
  | n, x :: l => decide (n < x) && decide (x < 1000000000) && rises x l
theorem rises_nodup : ∀ (l : List Int) (n : Int), 0 ≤ n → rises n l = true → (l.map hashInt).Nodup ∧ ∀ x ∈ l, n < hashInt x
  | [], n, _, _ => ⟨.nil, fun _ h => nomatch h⟩
  | x :: l, n, h0, h => by
    unfold rises at h
    simp only [Bool.and_eq_true, decide_eq_true_eq] at h
    obtain ⟨⟨h1, h2⟩, h3⟩ := h
    obtain ⟨i1, i2⟩ := rises_nodup l x (by omega) h3
    have hx : hashInt x = x := by
      have hr : rawHash x = x := by
        unfold rawHash
        dsimp only
        have hx0 : 0 < x := by omega
        have e : (x.natAbs : Int) = x := Int.natAbs_of_nonneg (by omega)
        have e2 : x % ((2 ^ 61 - 1 : Nat) : Int) = x := Int.emod_eq_of_lt (by omega) (by omega)
        rw [e, e2, if_neg (show ¬ x < 0 by omega), if_neg (show ¬ (x == -1) = true by rw [beq_iff_eq]; omega)]
      unfold hashInt
      rw [hr, if_neg (show ¬ (x == -1) = true by rw [beq_iff_eq]; omega)]
    refine ⟨?_, ?_⟩
    · rw [List.map_cons, List.nodup_cons]
      refine ⟨fun hm => ?_, i1⟩
      obtain ⟨y, hy, e⟩ := List.mem_map.mp hm
      have := i2 y hy
      rw [e, hx] at this
      omega
    · intro y hy
      rcases List.mem_cons.mp hy with rfl | hy
      · rw [hx]; exact h1
      · have := i2 y hy; omega
theorem b3_rises : rises 0 (b3Rows.map (·.1)) = true := by kernel_rfl
theorem b3_nodup : (b3Rows.map fun r => hashInt r.1).Nodup := by
  have := (rises_nodup _ 0 (Int.le_refl 0) b3_rises).1
  rw [List.map_map] at this
  exact this
end Mine
end
section
open PySem PySem.W PyProof.Rows
set_option maxHeartbeats 400000
namespace Mine
theorem b3_ents : ent17 442 (b3Chunk 0) ++ ents 493 b3Cs ++ ent4 2380 b3Tl = b3All := rfl
noncomputable def insAll : BT → Nat → List Obj → BT
  | t, _, [] => t
  | t, n, o :: os => insAll (t.ins n o) (n + 1) os
noncomputable def okIns : BT → Nat → List Obj → Bool
  | _, _, [] => true
  | t, n, o :: os => ((t.ins n o).get n).isSome && okIns (t.ins n o) (n + 1) os
theorem ins_push (life : Life) : ∀ (os : List Obj) (t : BT) (n : Nat), okIns t n os = true → os.foldl (fun h o => h.push o) (absHeap t n life) = absHeap (insAll t n os) (n + os.length) life
  | [], t, n, _ => rfl
  | o :: os, t, n, h => by
    unfold okIns at h
    rw [Bool.and_eq_true] at h
    rw [List.foldl_cons, ← absHeap_ins h.1, ins_push life os _ _ h.2]
    rw [List.length_cons, show n + 1 + os.length = n + (os.length + 1) by omega]
    rfl
noncomputable def b3Objs : List Obj := dO b3All :: (subsOf 493 b3Cs ++ [dO (ent4 2380 b3Tl)])
theorem b3_okIns (P : Params) : okIns (tree12 P) 135 b3Objs = true := by kernel_rfl
theorem b3_tree (P : Params) : insAll (tree12 P) 135 b3Objs = tree13a P := by kernel_rfl
theorem b3_objs_len : b3Objs.length = 39 := by kernel_rfl
theorem b3_heap (P : Params) : hp (absHeap (tree12 P) 135 {}) (ent17 442 (b3Chunk 0) ++ ents 493 b3Cs ++ ent4 2380 b3Tl) (subsOf 493 b3Cs ++ [dO (ent4 2380 b3Tl)]) = absHeap (tree13a P) 174 {} := by
  rw [b3_ents, ← b3_tree]
  have h := ins_push {} b3Objs (tree12 P) 135 (b3_okIns P)
  rw [b3_objs_len] at h
  rw [← show 135 + 39 = 174 from rfl, ← h]
  unfold hp b3Objs
  rw [List.foldl_cons]
noncomputable def st13a (w : World) (os : OsState) : SharedT := ⟨tree13a w.params, 174, {}, ⟨[]⟩, {}, 2392, os⟩
section
variable {p : Program} {w : World} {b : List Stmt} {env : Env}
theorem rt_b3 (os : OsState) : RT p w b env 12515 (st12 w os).abs b3P (dictDisplay (b3Rows.map (itemOf env b3P))) (st13a w os).abs b3P (.ref 135) := by
  have hsz : (absHeap (tree12 w.params) 135 {}).objs.size = 135 := absHeap_size _ _ _
  have hcs : b3Cs.length = 37 := by unfold b3Cs; rw [List.length_map, List.length_range']
  have hfl : b3Cs.flatten.length = 629 := by
    have h1 := congrArg List.length b3_split
    rw [List.length_append, List.length_append, b3_len, b3_chunk 0 (by decide), b3_tl] at h1
    omega
  have h := rt_display (p := p) (w := w) (b := b) (env := env) (pos := b3P) (H := absHeap (tree12 w.params) 135 {}) (gens := ⟨[]⟩) (drawn := {}) (os := os) (T := 442) (b3Chunk 0) b3Cs b3Tl (by rw [hsz]; decide) (b3_chunk 0 (by decide)) (fun c hc => by
    obtain ⟨k, hk, rfl⟩ := List.mem_map.mp hc
    have := List.mem_range'_1.mp hk
    exact b3_chunk k (by omega)) (by rw [b3_tl]; decide) (fun e => by have := congrArg List.length e; rw [b3_tl] at this; cases this) (by rw [hfl, b3_tl]; decide) (by rw [← b3_split]; exact b3_nodup)
  rw [← b3_split, hsz, hcs, b3_tl] at h
  rw [show (442 + 51 : Nat) = 493 from rfl, show (493 + 51 * 37 : Nat) = 2380 from rfl, show (2380 + 3 * 4 : Nat) = 2392 from rfl, b3_heap] at h
  exact h
end
section
variable (tb : String → Option Builtin) (p : Program) (w : World) (n₀ : Nat) (ann : Option Value)
/-- one step at the top, over a tree of objects -/
noncomputable def tread (x : SharedT × Thread) : Option (SharedT × Thread) := if (!through x.2 && stepOk n₀ ann x.2) = true then stepT (denote tb) p w x.1 x.2 else none
noncomputable def treads : Nat → SharedT × Thread → Option (SharedT × Thread)
  | 0, x => some x
  | n + 1, x => (tread tb p w n₀ ann x).bind (treads n)
variable {tb p w n₀ ann}
theorem tread_top {x y : SharedT × Thread} (h : tread tb p w n₀ ann x = some y) : topGo tb p w n₀ ann 1 x.1.abs x.2 = some (y.1.abs, y.2) := by
  unfold tread at h
  by_cases c : (!through x.2 && stepOk n₀ ann x.2) = true
  · rw [if_pos c] at h
    obtain ⟨c1, c2⟩ := Bool.and_eq_true_iff.mp c
    have c1' : through x.2 = false := by simpa using c1
    simp only [topGo, c1', c2, stepT_spec h]
  · rw [if_neg c] at h
    cases h
theorem treads_top : ∀ {n : Nat} {x y : SharedT × Thread}, treads tb p w n₀ ann n x = some y → topGo tb p w n₀ ann n x.1.abs x.2 = some (y.1.abs, y.2)
  | 0, x, y, h => by obtain rfl : x = y := Option.some.inj h; rfl
  | n + 1, x, y, h => by
    obtain ⟨z, hz, h'⟩ := Option.bind_eq_some_iff.mp h
    rw [Nat.add_comm n 1]
    exact topGo_add (tread_top hz) (treads_top h')
end
noncomputable def tailRun (S : SharedT) (env : Env) (q : Pos) (p : Program) (w : World) (b : List Stmt) (K : Flow → Sem PySem.Fin) (H : Value → Sem PySem.Fin) (gd : Bool → Bool) (lv : List Value → List Value) : Option (SharedT × Thread) :=
  treads treeTable p w 11 (some (.ref 6)) 7 (S, ⟨(do standAt ⟨122, 0, 122, 13⟩; bindName env (Str.ofString "b3_exceptions") (.ref 135); pure .next : Sem Flow).wrap K H gd lv, .body b env, q, [topFrame ⟨0, 0, 0, 0⟩]⟩)
theorem primeTail : (fun (_ : SharedT → Env → Pos → Program → World → List Stmt → (Flow → Sem PySem.Fin) → (Value → Sem PySem.Fin) → (Bool → Bool) → (List Value → List Value) → Option (SharedT × Thread)) => true) tailRun = true := by k_qdec
theorem tailRun_eq (p : Program) (w : World) (b : List Stmt) (os : OsState) (K : Flow → Sem PySem.Fin) (H : Value → Sem PySem.Fin) (gd : Bool → Bool) (lv : List Value → List Value) : tailRun (st13a w os) envT b3P p w b K H gd lv = some (st13 w os, ⟨K .next, .body b envT, ⟨122, 0, 122, 13⟩, [topFrame ⟨0, 0, 0, 0⟩]⟩) := by
  have e := PySem.W.Fast.te13052915456198953752
  rw [e]
  kernel_rfl
theorem rt_stm13 {p : Program} {w : World} {b : List Stmt} (os : OsState) (q : Pos) : RT p w b envT 12524 (st12 w os).abs q (exec (stm 13) envT) (st13 w os).abs ⟨122, 0, 122, 13⟩ .next := by
  rw [stm13_eq, exec_Assign_Name (hs := rfl)]
  refine RT.cast (n := (0 + 1) + (12516 + 7)) (RT.bind' (n := 0 + 1) (m := 12516 + 7) (RT.at_ RT.pure) ?_) rfl rfl
  refine RT.bind' (n := 12516) (m := 7) (s₁ := (st13a w os).abs) (q₁ := b3P) (a := .ref 135) ?_ ?_
  · rw [arm_eval_Dict, evalKeys _ _ b3K_ok, evalVals _ _ b3W_ok, zip_items]
    exact RT.cast (n := (0 + 1) + 12515) (RT.bind' (n := 0 + 1) (m := 12515) (RT.at_ RT.pure) (rt_b3 os)) rfl rfl
  · intro K H gd lv
    exact treads_top (tailRun_eq p w b os K H gd lv)
end Mine
end
section
open PySem PySem.W PyProof.Rows
set_option maxHeartbeats 400000
namespace Mine
noncomputable def runSeg (n : Nat) (sts : List Stmt) (S : SharedT) (env : Env) (pos : Pos) (p : Program) (b : List Stmt) (w : World) : Option (Flow × SharedT × Code × Pos) :=
  segRunT treeTable p w 11 (some (.ref 6)) 1 n S (piecesOf sts env (.body b env) pos [topFrame ⟨0, 0, 0, 0⟩])
theorem primeSeg : (fun (_ : Nat → List Stmt → SharedT → Env → Pos → Program → List Stmt → World → Option (Flow × SharedT × Code × Pos)) => true) runSeg = true := by k_qdec
theorem run1_eq (p : Program) (b : List Stmt) (w : World) (os : OsState) : runSeg 39 [stm 0, stm 1] (st100 w os) envT ⟨0, 0, 0, 0⟩ p b w = some (.next, st1 w os, .body b envT, ⟨4, 0, 4, 8⟩) := by
  rw [PySem.W.Fast.te7344953021596632242]
  kernel_rfl
theorem run2_b (c : Bool) (w : World) (p : Program) (b : List Stmt) (os : OsState) : runSeg 493 [stm 2] (st1 (w.withFollow "special-get-raises" c) os) envT ⟨4, 0, 4, 8⟩ p b (w.withFollow "special-get-raises" c) = some (.next, st2 (w.withFollow "special-get-raises" c) os, .body b envT, ⟨5, 0, 60, 16⟩) := by
  rw [PySem.W.Fast.te7344953021596632242]
  cases c
  · kernel_rfl
  · kernel_rfl
theorem run2_eq (p : Program) (b : List Stmt) (w : World) (os : OsState) : runSeg 493 [stm 2] (st1 w os) envT ⟨4, 0, 4, 8⟩ p b w = some (.next, st2 w os, .body b envT, ⟨5, 0, 60, 16⟩) :=
  byRow2 "special-get-raises" (P := fun w => runSeg 493 [stm 2] (st1 w os) envT ⟨4, 0, 4, 8⟩ p b w = some (.next, st2 w os, .body b envT, ⟨5, 0, 60, 16⟩)) (fun w => run2_b false w p b os) (fun w => run2_b true w p b os) w
theorem run10_b (c : Bool) (w : World) (p : Program) (b : List Stmt) (os : OsState) : runSeg 298 [stm 3, stm 4, stm 5, stm 6, stm 7, stm 8, stm 9, stm 10] (st2 (w.withFollow "special-get-raises" c) os) envT ⟨5, 0, 60, 16⟩ p b (w.withFollow "special-get-raises" c) = some (.next, st10 (w.withFollow "special-get-raises" c) os, .body b envT, ⟨118, 0, 118, 8⟩) := by
  rw [PySem.W.Fast.te7344953021596632242]
  cases c
  · kernel_rfl
  · kernel_rfl
theorem run10_eq (p : Program) (b : List Stmt) (w : World) (os : OsState) : runSeg 298 [stm 3, stm 4, stm 5, stm 6, stm 7, stm 8, stm 9, stm 10] (st2 w os) envT ⟨5, 0, 60, 16⟩ p b w = some (.next, st10 w os, .body b envT, ⟨118, 0, 118, 8⟩) :=
  byRow2 "special-get-raises" (P := fun w => runSeg 298 [stm 3, stm 4, stm 5, stm 6, stm 7, stm 8, stm 9, stm 10] (st2 w os) envT ⟨5, 0, 60, 16⟩ p b w = some (.next, st10 w os, .body b envT, ⟨118, 0, 118, 8⟩)) (fun w => run10_b false w p b os) (fun w => run10_b true w p b os) w
theorem run11_b (c : Bool) (w : World) (p : Program) (b : List Stmt) (os : OsState) : runSeg 999 [stm 11] (st10 (w.withFollow "special-get-raises" c) os) envT ⟨118, 0, 118, 8⟩ p b (w.withFollow "special-get-raises" c) = some (.next, st11 (w.withFollow "special-get-raises" c) os, .body b envT, ⟨119, 0, 119, 6⟩) := by
  rw [PySem.W.Fast.te7344953021596632242]
  cases c
  · kernel_rfl
  · kernel_rfl
theorem run11_eq (p : Program) (b : List Stmt) (w : World) (os : OsState) : runSeg 999 [stm 11] (st10 w os) envT ⟨118, 0, 118, 8⟩ p b w = some (.next, st11 w os, .body b envT, ⟨119, 0, 119, 6⟩) :=
  byRow2 "special-get-raises" (P := fun w => runSeg 999 [stm 11] (st10 w os) envT ⟨118, 0, 118, 8⟩ p b w = some (.next, st11 w os, .body b envT, ⟨119, 0, 119, 6⟩)) (fun w => run11_b false w p b os) (fun w => run11_b true w p b os) w
theorem run12_eq (p : Program) (b : List Stmt) (w : World) (os : OsState) : runSeg 30 [stm 12] (st11 w os) envT ⟨119, 0, 119, 6⟩ p b w = some (.next, st12 w os, .body b envT, ⟨120, 0, 121, 30⟩) := by
  rw [PySem.W.Fast.te7344953021596632242]
  kernel_rfl
theorem run21_eq (p : Program) (b : List Stmt) (w : World) (os : OsState) : runSeg 221 [stm 14, stm 15, stm 16, stm 17, stm 18, stm 19, stm 20, stm 21] (st13 w os) envT ⟨122, 0, 122, 13⟩ p b w = some (.next, st21 w os, .body b envT, ⟨152, 0, 196, 103⟩) := by
  rw [PySem.W.Fast.te7344953021596632242]
  kernel_rfl
noncomputable abbrev pw : Program := PySem.Challenge.pw_sn0085_01
noncomputable abbrev bodyE : List Stmt := behindTheImports pw
noncomputable def preRun (p : Program) (S : Shared) (w : World) : Option (Shared × Thread) := topGo treeTable p w 11 (some (.ref 6)) 12 S (topStub p)
theorem primePre : (fun (_ : Program → Shared → World → Option (Shared × Thread)) => true) preRun = true := by k_qdec
noncomputable def thrB (b : List Stmt) (env : Env) : Sem PySem.Fin := denote treeTable (.body b env)
theorem primeThr : (fun (_ : List Stmt → Env → Sem PySem.Fin) => true) thrB = true := by k_qdec
theorem preRun_eq (w : World) (os : OsState) : preRun pw ⟨boot_heap w.params, ⟨[]⟩, boot_drawn, boot_toks, os⟩ w = some ((st100 w os).abs, ⟨thrB bodyE envT, .body bodyE envT, ⟨0, 0, 0, 0⟩, [topFrame ⟨0, 0, 0, 0⟩]⟩) := by
  rw [PySem.W.Fast.te13111687520181161342, PySem.W.Fast.te13483002865195774951]
  kernel_rfl
theorem block_eq (w : World) (os : OsState) : segRun treeTable pw w 11 (some (.ref 6)) 1 1 (st100 w os).abs (blockOf bodyE envT (.body bodyE envT) ⟨0, 0, 0, 0⟩ [topFrame ⟨0, 0, 0, 0⟩]) = some (.next, (st100 w os).abs, .body bodyE envT, ⟨0, 0, 0, 0⟩) := by kernel_rfl
theorem fin_eq (w : World) (os : OsState) (c : Code) (pos : Pos) : topRun treeTable pw w 11 (some (.ref 6)) 2 (st21 w os).abs ⟨doneF .next, c, pos, [topFrame ⟨0, 0, 0, 0⟩]⟩ = some (st21 w os).abs := by kernel_rfl
end Mine
end
section
open PySem PySem.W PyProof.Rows
set_option maxHeartbeats 400000
namespace Mine
theorem body_parts : bodyE = [stm 0, stm 1] ++ ([stm 2] ++ ([stm 3, stm 4, stm 5, stm 6, stm 7, stm 8, stm 9, stm 10] ++ ([stm 11] ++ ([stm 12] ++ (stm 13 :: ([stm 14, stm 15, stm 16, stm 17, stm 18, stm 19, stm 20, stm 21] ++ [])))))) := by kernel_rfl
theorem runAll (w : World) (os : OsState) : topRun treeTable pw w 11 (some (.ref 6)) 14619 ⟨boot_heap w.params, ⟨[]⟩, boot_drawn, boot_toks, os⟩ (topStub pw) = some (st21 w os).abs := by
  have k := fin_eq w os (.body bodyE envT) ⟨152, 0, 196, 103⟩
  have k14 := piece_app (env := envT) (rest := []) (segRun_of (run21_eq pw bodyE w os)) k
  have k13 := go_top (rt_stm13 (p := pw) (w := w) (b := bodyE) os ⟨120, 0, 121, 30⟩ (fun f => match f with | .next => (execs ([stm 14, stm 15, stm 16, stm 17, stm 18, stm 19, stm 20, stm 21] ++ []) envT).wrap doneF (leaveH envT) id id | f => doneF f) (leaveH envT) id id) k14
  have e13 : restOf (stm 13 :: ([stm 14, stm 15, stm 16, stm 17, stm 18, stm 19, stm 20, stm 21] ++ [])) envT (.body bodyE envT) ⟨120, 0, 121, 30⟩ [topFrame ⟨0, 0, 0, 0⟩] = ⟨(exec (stm 13) envT).wrap (fun f => match f with | .next => (execs ([stm 14, stm 15, stm 16, stm 17, stm 18, stm 19, stm 20, stm 21] ++ []) envT).wrap doneF (leaveH envT) id id | f => doneF f) (leaveH envT) id id, .body bodyE envT, ⟨120, 0, 121, 30⟩, [topFrame ⟨0, 0, 0, 0⟩]⟩ := by
    unfold restOf
    exact congrArg (fun c => (⟨c, _, _, _⟩ : Thread)) (PySem.execs_cons_wrap (stm 13) _)
  rw [← e13] at k13
  have k12 := piece_app (env := envT) (segRun_of (run12_eq pw bodyE w os)) k13
  have k11 := piece_app (env := envT) (segRun_of (run11_eq pw bodyE w os)) k12
  have k10 := piece_app (env := envT) (segRun_of (run10_eq pw bodyE w os)) k11
  have k2 := piece_app (env := envT) (segRun_of (run2_eq pw bodyE w os)) k10
  have kc := piece_app (env := envT) (segRun_of (run1_eq pw bodyE w os)) k2
  rw [← body_parts] at kc
  have kb := piece_block (block_eq w os) kc
  have hp : topGo treeTable pw w 11 (some (.ref 6)) 12 ⟨boot_heap w.params, ⟨[]⟩, boot_drawn, boot_toks, os⟩ (topStub pw) = some ((st100 w os).abs, ⟨denote treeTable (.body bodyE envT), .body bodyE envT, ⟨0, 0, 0, 0⟩, [topFrame ⟨0, 0, 0, 0⟩]⟩) := by
    have e := preRun_eq w os
    unfold preRun thrB at e
    exact e
  have r := go_top hp kb
  exact r
end Mine
end
section
open PySem PySem.W PySem.Calls PyProof.Rows
set_option maxHeartbeats 400000
namespace Mine
noncomputable abbrev addrsK : List Addr := [2, 3, 15, 17, 18, 20, 21, 32, 34, 35, 37, 38, 39, 41, 42, 44, 45, 46, 48, 49, 51, 52, 53, 55, 56, 58, 59, 60, 62, 63, 65, 66, 67, 69, 70, 72, 73, 74, 76, 77, 79, 80, 81, 82, 83, 84, 85, 88, 89, 91, 92, 94, 95, 96, 98, 99, 101, 102, 103, 105, 106, 108, 109, 110, 112, 113, 115, 116, 124, 128, 130, 131, 133, 134, 135, 174, 176, 177, 179, 180, 181, 183, 184, 186, 187, 188, 190, 191, 193, 194, 195, 197, 198, 200, 201, 202, 204, 205, 207, 208, 209, 211, 212, 214, 215, 216, 219, 220]
noncomputable abbrev hk : Hook := kHook K addrsK (fun _ => by kernel_rfl)
noncomputable abbrev looseN : List Str := [Str.ofString "Whitespace", Str.ofString "COMPILER_FLAG_NAMES", Str.ofString "b1_set", Str.ofString "b3_exceptions"]
noncomputable abbrev recR : RowW := OpenRow.toRowW (OpenLaw.row PySem.Challenge.rw_sn0085_01)
noncomputable abbrev XtR : Shared → Bool := fun s => xlAt q [] s && recOk (RowW.records recR) s
noncomputable def H1 (P : Params) : Heap := absHeap (tree21 P) 221 {}
noncomputable def sF (w : World) (os : OsState) : Shared := ⟨H1 w.params, ⟨[]⟩, {}, 2454, os⟩
noncomputable def lkA (H₀ : Heap) (mods : List Str) (p : Program) (S : Shared) := (staticsOk mods H₀ S.heap && namesBound p S.heap && gensDone S && laidKept H₀ S.heap)
theorem lookA (w : World) (os : OsState) : lkA (boot_heap w.params) (importedModules pw.main.body) pw (sF w os) = true := by
  kernel_rfl
noncomputable def lkB1 (q : Program) (S : Shared) := seen ((recsOf q).map (·.name)) (ownsOf q) [] { S with gens := #[] }
theorem prLkB1 : (fun (_ : Program → Shared → _) => true) lkB1 = true := by k_qdec
noncomputable def rkB1 (q : Program) := expectedOf q
theorem lookB1 (w : World) (os : OsState) : lkB1 q (sF w os) = rkB1 q := by
  rw [PySem.W.Fast.te2100680226342932663]
  kernel_rfl
noncomputable def lkB2 (S : Shared) := S.heap.bltView
theorem lookB2 (w : World) (os : OsState) : lkB2 (sF w os) = bltViewBooted := by
  kernel_rfl
noncomputable def lkB3 (q : Program) (loose mods : List Str) (R : WRecords) (S : Shared) := (S.heap.keysOk (looseW q loose) ((recsOf q).map (·.name)) ((litsOf q).map (·.1)) ((clssOf q (looseW q loose)).map (·.name)) && S.heap.accountedOkI mods && S.heap.isNs mainGlobals && S.heap.isNs builtinsNs && tablesOk q S.heap && (xlAt q [] S && recOk R S) && (if true then S.gens.size == 0 else !leftWithCleanup S.gens))
theorem prLkB3 : (fun (_ : Program → List Str → List Str → WRecords → Shared → Bool) => true) lkB3 = true := by k_qdec
theorem lookB3 (w : World) (os : OsState) : lkB3 q looseN (importedModules pw.main.body) (RowW.records recR) (sF w os) = true := by
  rw [PySem.W.Fast.te7253237840070052977]
  kernel_rfl
noncomputable def lkB4 (q : Program) (S : Shared) := tabsOk q S
theorem prLkB4 : (fun (_ : Program → Shared → Bool) => true) lkB4 = true := by k_qdec
theorem lookB4 (w : World) (os : OsState) : lkB4 q (sF w os) = true := by
  rw [PySem.W.Fast.te5961652585657311684]
  kernel_rfl
noncomputable def lkB5 (q : Program) (S : Shared) := pinSeenD q (drecsOf q) S
theorem prLkB5 : (fun (_ : Program → Shared → _) => true) lkB5 = true := by k_qdec
noncomputable def rkB5 (q : Program) := pinGoodD (drecsOf q)
theorem prRkB5 : (fun (_ : Program → _) => true) rkB5 = true := by k_qdec
theorem lookB5 (w : World) (os : OsState) : lkB5 q (sF w os) = rkB5 q := by
  rw [PySem.W.Fast.te8663172179843404477, PySem.W.Fast.te15213602964892382588]
  kernel_rfl
noncomputable def lkB6 (q : Program) (loose : List Str) (S : Shared) := plainSeenE q (looseW q loose) S
theorem prLkB6 : (fun (_ : Program → List Str → Shared → _) => true) lkB6 = true := by k_qdec
noncomputable def rkB6 (q : Program) (loose : List Str) := plainGoodE q (looseW q loose)
theorem prRkB6 : (fun (_ : Program → List Str → _) => true) rkB6 = true := by k_qdec
theorem lookB6 (w : World) (os : OsState) : lkB6 q looseN (sF w os) = rkB6 q looseN := by
  rw [PySem.W.Fast.te1968134311295120039, PySem.W.Fast.te5523037401179242538]
  kernel_rfl
noncomputable def lkB7 (q : Program) (loose : List Str) (S : Shared) := plainSeenD q loose S
theorem prLkB7 : (fun (_ : Program → List Str → Shared → _) => true) lkB7 = true := by k_qdec
noncomputable def rkB7 (q : Program) (loose : List Str) := plainGoodD q loose
theorem lookB7 (w : World) (os : OsState) : lkB7 q looseN (sF w os) = rkB7 q looseN := by
  rw [PySem.W.Fast.te18266034551542086140]
  kernel_rfl
noncomputable def lkB8 (q : Program) (S : Shared) := wideSeen q S
theorem prLkB8 : (fun (_ : Program → Shared → _) => true) lkB8 = true := by k_qdec
noncomputable def rkB8 (q : Program) := wideGood q
theorem lookB8 (w : World) (os : OsState) : lkB8 q (sF w os) = rkB8 q := by
  rw [PySem.W.Fast.te1788279161677446789]
  kernel_rfl
noncomputable def lkB9 (q : Program) (loose : List Str) (S : Shared) := clsSeenW q loose S
theorem prLkB9 : (fun (_ : Program → List Str → Shared → _) => true) lkB9 = true := by k_qdec
noncomputable def rkB9 (q : Program) (loose : List Str) := clsGoodW q loose
theorem lookB9 (w : World) (os : OsState) : lkB9 q looseN (sF w os) = rkB9 q looseN := by
  rw [PySem.W.Fast.te15752867340683857188]
  kernel_rfl
theorem lookC (w : World) (os : OsState) : addrsK.map (H1 w.params).get? = (K w.params).map fun p => some p.2 := by kernel_rfl
theorem look_eq (w : World) (os : OsState) : ((staticsOk (importedModules pw.main.body) (boot_heap w.params) (H1 w.params) && namesBound pw (H1 w.params) && gensDone (sF w os) && laidKept (boot_heap w.params) (H1 w.params)),
    openSeen q looseN (importedModules pw.main.body) XtR true (sF w os), hk.obs (sF w os)) = (true, openGood q looseN, hk.val w) :=
  looks_pair (lookA w os) (looks_pair (looks_pair (lookB1 w os) (looks_pair (lookB2 w os) (looks_pair (lookB3 w os) (looks_pair (lookB4 w os) (looks_pair (lookB5 w os) (looks_pair (lookB6 w os) (looks_pair (lookB7 w os) (looks_pair (lookB8 w os) (lookB9 w os))))))))) (lookC w os))
end Mine
end
section
open PySem PySem.W PySem.Calls PyProof.Rows
set_option maxHeartbeats 400000
namespace Mine
noncomputable def sizeL (w : World) := ((boot_heap w.params).isNs mainGlobals && (⟨[]⟩ : Array GenState).size == 0, (boot_heap w.params).objs.size, (boot_heap w.params).nsMap mainGlobals "__annotations__")
theorem primeS : (fun (_ : World → _) => true) sizeL = true := by k_qdec
theorem size_eq (w : World) : sizeL w = (true, 11, some (.ref 6)) := by
  have e := PySem.W.Fast.te10514693982987533042
  rw [e]
  kernel_rfl
theorem opening_eq : opening pw = plainProg pw.main.scope.names := by kernel_rfl
theorem fence_eq (s : Shared) : fenceModules? pw s = some s := by kernel_rfl
theorem left : LeftO pw q looseN XtR hk.obs hk.val 29322 true :=
  LeftO.of_pieces (H₀ := boot_heap) (H₁ := H1) (gs₀ := ⟨[]⟩) (gs₁ := ⟨[]⟩) (d₀ := boot_drawn) (d₁ := {}) (k₀ := boot_toks) (k₁ := 2454) (m₀ := 11) (ann := some (.ref 6)) (M := 14619)
    (boot_open opening_eq (by decide) fence_eq)
    (fun w => size_eq w) (fun w os => runAll w os) (by decide +kernel) (fun w => funext fun os => look_eq w os)
end Mine
end
section
open PySem PySem.W PySem.Calls PyProof.Rows
set_option maxHeartbeats 400000
namespace Mine
noncomputable def wsaid (l : OpenLaw) : Bool := l.wellSaid
theorem primeW : (fun (_ : OpenLaw → Bool) => true) wsaid = true := by k_qdec
theorem said_ok : PySem.Challenge.rw_sn0085_01.wellSaid = true := by
  have e : wsaid PySem.Challenge.rw_sn0085_01 = true := by
    rw [PySem.W.Fast.te5838651819065471775]
    kernel_rfl
  exact e
end Mine
end
open PySem PySem.W PySem.Spec PySem.Calls PyProof.Rows
set_option maxHeartbeats 8000000
namespace Mine
theorem regFin : (fun (_ : OpenLaw) (_ : Params → Frag) => True) PySem.Challenge.rw_sn0085_01 Mine.K := by
  k_fill
  exact trivial
end Mine
open Mine
set_option maxRecDepth 100000 in
theorem PySem.Challenge.cw_sn0085_01_holds : PySem.Challenge.rw_sn0085_01.Holds := by
  w_on
  refine holds_law said_ok fun said => ?_
  refine holds_open (q := Mine.q) (loose := looseN) (Xt := XtR) (XP := XL Mine.q []) (Yf := hk.obs) (Ya := hk.val) (YP := hk.says) (N := 29322) left hk.of hk.keeps (fun s e => xl_of s (Bool.and_eq_true_iff.mp e).1) XL.keeps (by rfl) (by rfl) (by rfl) (fun s e => recFacts_of (Bool.and_eq_true_iff.mp e).2) (by rfl) (by first | assumption | decide +kernel) (by decide +kernel) ⟨rfl, rfl, rfl, rfl, rfl, by decide +kernel⟩ ?hw ?hc
  case hw => w_witness2
  case hc =>
    intro w s₀ s₁ mg mb G Y fa o pm cd doc dV kV ho hd hcd hD hmg hg args vals as hpre hlay hrd hwl hlo
    have KX := kIn_of Y
    kn_any hmg
    have X := (Ground.X G).1
    have V := (Ground.X G).2
    refine Ground.open G ?_
    intro T B D TE TW
    try (refine guard_noD D (by decide +kernel) ?_; clear D)
    kn_lay T hmg ho hd cd
    clear hmg
    wrow_args hpre hlay hrd hwl hlo
    refine enter_call ?_
    w_top on
    refine law_post hT9 (fun _ _ => rfl) (by first | with_unfolding_all rfl | kernel_rfl | (simp; done)) ?_
    w_call any ho hd hcd hD T F
    clear hd
    kn_ghosts F T
    k_drop
    show wpAny _ (lawA _ _) (execs [lawB0, lawB1, lawB2, lawB3, lawB4, lawB5, lawB6, lawB7, lawB8, lawB9, lawB10, lawB11, lawB12, lawB13, lawB14, lawB15, lawB16, lawB17, lawB18, lawB19] (lawEnv _ _)) _ _ _
    rename_i w1 w2 w3 w4 w5 w6 w7 w8 w9 w10 w11 w12 w13 w14 w15 w16 w17 w18
    refine law_walk (ws := _) (vs := _) (by assumption) (by assumption) (by assumption) codeHd (by assumption) rfl lifted (by assumption) (by omega) (by assumption) w18 (by assumption) (by assumption) (by assumption) (by assumption) (by assumption) (by assumption) ?_ law_facts fun h' tk gs' xs m' ag F N => ?_
    · passes_own
    · refine ⟨rfl, fun b o e => ?_, rfl, ag ?_, ?_⟩
      · exact F.keep b o e
      · show AllBare s₁.gens
        rw [hg]
        exact fun y hy => by simp at hy
      · exact ⟨GrownAt.of N (.head _), True.intro⟩
