import PyProof.Rows.All
import Wide.All
import OpenK.AllK
import Wide.FinOn
import PySem.Challenge.RW_ph0171_01
open PySem PySem.W PyProof.Rows
set_option Elab.async false
set_option linter.all false
namespace Mine
section
set_option maxRecDepth 100000
set_option maxHeartbeats 4000000
/-! ## Hd -/
/-! the written part of the state behind the top: what the law's calls read -/
abbrev lit {α : Type} {a : α} (b : α) (_ : a = b) : α := b
def partsOf : Stmt → Arguments × List Stmt × Scope
  | .FunctionDef _ a b _ _ _ sc _ _ _ => (a, b, sc)
  | _ => (default, [], default)
def inCls : Stmt → List Stmt
  | .ClassDef _ _ _ b _ _ _ _ _ _ _ => b
  | _ => []
def nth : List Stmt → Nat → Stmt
  | [], _ => .Pass default
  | x :: _, 0 => x
  | _ :: r, n + 1 => nth r n
noncomputable def t (i : Nat) : Stmt := nth PySem.Challenge.pw_ph0171_01.main.body i
noncomputable def c (i j : Nat) : Stmt := nth (inCls (t i)) j
noncomputable def D28 : Arguments × List Stmt × Scope := lit (a := partsOf (t 3)) _ (by conv => lhs; whnf)
noncomputable def D42 : Arguments × List Stmt × Scope := lit (a := partsOf (t 5)) _ (by conv => lhs; whnf)
noncomputable def D49 : Arguments × List Stmt × Scope := lit (a := partsOf (t 6)) _ (by conv => lhs; whnf)
noncomputable def D56 : Arguments × List Stmt × Scope := lit (a := partsOf (t 7)) _ (by conv => lhs; whnf)
noncomputable def D63 : Arguments × List Stmt × Scope := lit (a := partsOf (t 8)) _ (by conv => lhs; whnf)
noncomputable def D77 : Arguments × List Stmt × Scope := lit (a := partsOf (c 10 0)) _ (by conv => lhs; whnf)
noncomputable def D84 : Arguments × List Stmt × Scope := lit (a := partsOf (c 10 1)) _ (by conv => lhs; whnf)
noncomputable def D98 : Arguments × List Stmt × Scope := lit (a := partsOf (t 11)) _ (by conv => lhs; whnf)
noncomputable def D105 : Arguments × List Stmt × Scope := lit (a := partsOf (t 12)) _ (by conv => lhs; whnf)
noncomputable def D112 : Arguments × List Stmt × Scope := lit (a := partsOf (t 13)) _ (by conv => lhs; whnf)
noncomputable def D129 : Arguments × List Stmt × Scope := lit (a := partsOf (c 15 1)) _ (by conv => lhs; whnf)
noncomputable def D143 : Arguments × List Stmt × Scope := lit (a := partsOf (c 15 3)) _ (by conv => lhs; whnf)
noncomputable def D183 : Arguments × List Stmt × Scope := lit (a := partsOf (t 17)) _ (by conv => lhs; whnf)
noncomputable def D190 : Arguments × List Stmt × Scope := lit (a := partsOf (t 18)) _ (by conv => lhs; whnf)
noncomputable def D197 : Arguments × List Stmt × Scope := lit (a := partsOf (t 19)) _ (by conv => lhs; whnf)
noncomputable def D202 : Arguments × List Stmt × Scope := lit (a := partsOf (t 20)) _ (by conv => lhs; whnf)
def fnObj (name qual : Str) (d : Arguments × List Stmt × Scope) (pm cd : Value) : Obj :=
  { cls := .type "function", data := .func (fnOf name qual d.1 d.2.1 d.2.2 .none .none .none pm none cd .none) }
noncomputable def K (P : Params) : Frag := [
  (2, { cls := Value.none, data := Data.dict #[] }),
  (3, { cls := Value.type "dict", data := Data.dict #[{ hash := PyData.keyHash P (Str.ofString "__name__"), key := Value.str (Str.ofString "__name__") 165, val := Value.str (Str.ofString "law_ph0171_01") 456 }, { hash := PyData.keyHash P (Str.ofString "__doc__"), key := Value.str (Str.ofString "__doc__") 166, val := Value.none }, { hash := PyData.keyHash P (Str.ofString "__package__"), key := Value.str (Str.ofString "__package__") 167, val := Value.none }, { hash := PyData.keyHash P (Str.ofString "__loader__"), key := Value.str (Str.ofString "__loader__") 168, val := Value.builtin "__main__.__loader__#opaque" }, { hash := PyData.keyHash P (Str.ofString "__spec__"), key := Value.str (Str.ofString "__spec__") 169, val := Value.none }, { hash := PyData.keyHash P (Str.ofString "__annotations__"), key := Value.str (Str.ofString "__annotations__") 170, val := Value.ref 6 }, { hash := PyData.keyHash P (Str.ofString "__builtins__"), key := Value.str (Str.ofString "__builtins__") 171, val := Value.ref 4 }, { hash := PyData.keyHash P (Str.ofString "__file__"), key := Value.str (Str.ofString "__file__") 173, val := Value.str (Str.ofString "/claim/cut.py") 172 }, { hash := PyData.keyHash P (Str.ofString "__cached__"), key := Value.str (Str.ofString "__cached__") 174, val := Value.none }, { hash := PyData.keyHash P (Str.ofString "_wall"), key := Value.str (Str.ofString "_wall") 193, val := Value.ref 21 }, { hash := PyData.keyHash P (Str.ofString "_DIV_LIMIT"), key := Value.str (Str.ofString "_DIV_LIMIT") 197, val := Value.int 4000 196 }, { hash := PyData.keyHash P (Str.ofString "_div2n1n"), key := Value.str (Str.ofString "_div2n1n") 214, val := Value.ref 28 }, { hash := PyData.keyHash P (Str.ofString "_div3n2n"), key := Value.str (Str.ofString "_div3n2n") 228, val := Value.ref 35 }, { hash := PyData.keyHash P (Str.ofString "_int2digits"), key := Value.str (Str.ofString "_int2digits") 239, val := Value.ref 42 }, { hash := PyData.keyHash P (Str.ofString "_digits2int"), key := Value.str (Str.ofString "_digits2int") 250, val := Value.ref 49 }, { hash := PyData.keyHash P (Str.ofString "_divmod_pos"), key := Value.str (Str.ofString "_divmod_pos") 265, val := Value.ref 56 }, { hash := PyData.keyHash P (Str.ofString "int_divmod"), key := Value.str (Str.ofString "int_divmod") 275, val := Value.ref 63 }, { hash := PyData.keyHash P (Str.ofString "TupleComp"), key := Value.str (Str.ofString "TupleComp") 319, val := Value.ref 87 }, { hash := PyData.keyHash P (Str.ofString "add_func_stats"), key := Value.str (Str.ofString "add_func_stats") 337, val := Value.ref 98 }, { hash := PyData.keyHash P (Str.ofString "add_callers"), key := Value.str (Str.ofString "add_callers") 348, val := Value.ref 105 }, { hash := PyData.keyHash P (Str.ofString "count_calls"), key := Value.str (Str.ofString "count_calls") 357, val := Value.ref 112 }, { hash := PyData.keyHash P (Str.ofString "Whitespace"), key := Value.str (Str.ofString "Whitespace") 455, val := Value.ref 174 }, { hash := PyData.keyHash P (Str.ofString "_law_lead"), key := Value.str (Str.ofString "_law_lead") 463, val := Value.ref 183 }, { hash := PyData.keyHash P (Str.ofString "_law_ways"), key := Value.str (Str.ofString "_law_ways") 474, val := Value.ref 190 }, { hash := PyData.keyHash P (Str.ofString "_law_place"), key := Value.str (Str.ofString "_law_place") 487, val := Value.ref 197 }, { hash := PyData.keyHash P (Str.ofString "law"), key := Value.str (Str.ofString "law") 493, val := Value.ref 202 }] 26 }),
  (27, { cls := Value.type "code", data := Data.fields #[Value.str (Str.ofString "_div2n1n") 198, Value.str (Str.ofString "_div2n1n") 199, Value.str (Str.ofString "/claim/cut.py") 200, Value.int 6 0, Value.int 3 0, Value.int 0 0, Value.int 0 0, Value.int 3 0, Value.ref 22, Value.bool true, Value.int 181 0, Value.ref 23, Value.none, Value.ref 24, Value.ref 25, Value.ref 26, Value.int 212 0, Value.int 6 0, Value.str (Str.ofString "/claim/cut.py") 213] }),
  (28, fnObj (Str.ofString "_div2n1n") (Str.ofString "_div2n1n") D28 (Value.str (Str.ofString "cpy313._pylong") 194) (Value.ref 27)),
  (41, { cls := Value.type "code", data := Data.fields #[Value.str (Str.ofString "_int2digits") 229, Value.str (Str.ofString "_int2digits") 230, Value.str (Str.ofString "/claim/cut.py") 231, Value.int 32 0, Value.int 2 0, Value.int 0 0, Value.int 0 0, Value.int 3 0, Value.ref 36, Value.bool true, Value.int 181 0, Value.ref 37, Value.none, Value.ref 38, Value.ref 39, Value.ref 40, Value.int 237 0, Value.int 32 0, Value.str (Str.ofString "/claim/cut.py") 238] }),
  (42, fnObj (Str.ofString "_int2digits") (Str.ofString "_int2digits") D42 (Value.str (Str.ofString "cpy313._pylong") 194) (Value.ref 41)),
  (48, { cls := Value.type "code", data := Data.fields #[Value.str (Str.ofString "_digits2int") 240, Value.str (Str.ofString "_digits2int") 241, Value.str (Str.ofString "/claim/cut.py") 242, Value.int 48 0, Value.int 2 0, Value.int 0 0, Value.int 0 0, Value.int 3 0, Value.ref 43, Value.bool true, Value.int 181 0, Value.ref 44, Value.none, Value.ref 45, Value.ref 46, Value.ref 47, Value.int 248 0, Value.int 48 0, Value.str (Str.ofString "/claim/cut.py") 249] }),
  (49, fnObj (Str.ofString "_digits2int") (Str.ofString "_digits2int") D49 (Value.str (Str.ofString "cpy313._pylong") 194) (Value.ref 48)),
  (55, { cls := Value.type "code", data := Data.fields #[Value.str (Str.ofString "_divmod_pos") 251, Value.str (Str.ofString "_divmod_pos") 252, Value.str (Str.ofString "/claim/cut.py") 253, Value.int 57 0, Value.int 2 0, Value.int 0 0, Value.int 0 0, Value.int 3 0, Value.ref 50, Value.bool true, Value.int 181 0, Value.ref 51, Value.none, Value.ref 52, Value.ref 53, Value.ref 54, Value.int 263 0, Value.int 57 0, Value.str (Str.ofString "/claim/cut.py") 264] }),
  (56, fnObj (Str.ofString "_divmod_pos") (Str.ofString "_divmod_pos") D56 (Value.str (Str.ofString "cpy313._pylong") 194) (Value.ref 55)),
  (62, { cls := Value.type "code", data := Data.fields #[Value.str (Str.ofString "int_divmod") 266, Value.str (Str.ofString "int_divmod") 267, Value.str (Str.ofString "/claim/cut.py") 268, Value.int 68 0, Value.int 2 0, Value.int 0 0, Value.int 0 0, Value.int 3 0, Value.ref 57, Value.bool true, Value.int 181 0, Value.ref 58, Value.none, Value.ref 59, Value.ref 60, Value.ref 61, Value.int 273 0, Value.int 68 0, Value.str (Str.ofString "/claim/cut.py") 274] }),
  (63, fnObj (Str.ofString "int_divmod") (Str.ofString "int_divmod") D63 (Value.str (Str.ofString "cpy313._pylong") 194) (Value.ref 62)),
  (76, { cls := Value.type "code", data := Data.fields #[Value.str (Str.ofString "__init__") 290, Value.str (Str.ofString "TupleComp.__init__") 291, Value.str (Str.ofString "/claim/cut.py") 292, Value.int 82 0, Value.int 2 0, Value.int 0 0, Value.int 0 0, Value.int 3 0, Value.ref 71, Value.bool true, Value.int 181 0, Value.ref 72, Value.none, Value.ref 73, Value.ref 74, Value.ref 75, Value.int 295 0, Value.int 82 0, Value.str (Str.ofString "/claim/cut.py") 296] }),
  (77, fnObj (Str.ofString "__init__") (Str.ofString "TupleComp.__init__") D77 (Value.str (Str.ofString "cpy313.pstats") 276) (Value.ref 76)),
  (83, { cls := Value.type "code", data := Data.fields #[Value.str (Str.ofString "compare") 298, Value.str (Str.ofString "TupleComp.compare") 299, Value.str (Str.ofString "/claim/cut.py") 300, Value.int 85 0, Value.int 3 0, Value.int 0 0, Value.int 0 0, Value.int 3 0, Value.ref 78, Value.bool true, Value.int 181 0, Value.ref 79, Value.none, Value.ref 80, Value.ref 81, Value.ref 82, Value.int 308 0, Value.int 85 0, Value.str (Str.ofString "/claim/cut.py") 309] }),
  (84, fnObj (Str.ofString "compare") (Str.ofString "TupleComp.compare") D84 (Value.str (Str.ofString "cpy313.pstats") 276) (Value.ref 83)),
  (86, { cls := Value.type "dict", data := Data.dict #[{ hash := PyData.keyHash P (Str.ofString "__module__"), key := Value.str (Str.ofString "__module__") 285, val := Value.str (Str.ofString "cpy313.pstats") 276 }, { hash := PyData.keyHash P (Str.ofString "__firstlineno__"), key := Value.str (Str.ofString "__firstlineno__") 289, val := Value.int 80 288 }, { hash := PyData.keyHash P (Str.ofString "__init__"), key := Value.str (Str.ofString "__init__") 297, val := Value.ref 77 }, { hash := PyData.keyHash P (Str.ofString "compare"), key := Value.str (Str.ofString "compare") 310, val := Value.ref 84 }, { hash := PyData.keyHash P (Str.ofString "__static_attributes__"), key := Value.str (Str.ofString "__static_attributes__") 312, val := Value.ref 85 }, { hash := PyData.keyHash P (Str.ofString "__dict__"), key := Value.str (Str.ofString "__dict__") 314, val := Value.ref 88 }, { hash := PyData.keyHash P (Str.ofString "__weakref__"), key := Value.str (Str.ofString "__weakref__") 316, val := Value.ref 89 }, { hash := PyData.keyHash P (Str.ofString "__doc__"), key := Value.str (Str.ofString "__doc__") 317, val := Value.none }] 4 }),
  (87, { cls := Value.type "type", data := Data.cls { name := Str.ofString "TupleComp", bases := [Value.type "object"], mro := [Value.ref 87, Value.type "object"], ns := 86, qualname := Str.ofString "TupleComp" }, slots := #[none, none, some (Value.str (Str.ofString "TupleComp") 278), some (Value.str (Str.ofString "TupleComp") 286), some (Value.builtin "object.__new__"), some (Value.bool true)] }),
  (97, { cls := Value.type "code", data := Data.fields #[Value.str (Str.ofString "add_func_stats") 320, Value.str (Str.ofString "add_func_stats") 321, Value.str (Str.ofString "/claim/cut.py") 322, Value.int 94 0, Value.int 2 0, Value.int 0 0, Value.int 0 0, Value.int 3 0, Value.ref 92, Value.bool true, Value.int 181 0, Value.ref 93, Value.none, Value.ref 94, Value.ref 95, Value.ref 96, Value.int 335 0, Value.int 94 0, Value.str (Str.ofString "/claim/cut.py") 336] }),
  (98, fnObj (Str.ofString "add_func_stats") (Str.ofString "add_func_stats") D98 (Value.str (Str.ofString "cpy313.pstats") 276) (Value.ref 97)),
  (104, { cls := Value.type "code", data := Data.fields #[Value.str (Str.ofString "add_callers") 338, Value.str (Str.ofString "add_callers") 339, Value.str (Str.ofString "/claim/cut.py") 340, Value.int 98 0, Value.int 2 0, Value.int 0 0, Value.int 0 0, Value.int 3 0, Value.ref 99, Value.bool true, Value.int 181 0, Value.ref 100, Value.none, Value.ref 101, Value.ref 102, Value.ref 103, Value.int 346 0, Value.int 98 0, Value.str (Str.ofString "/claim/cut.py") 347] }),
  (105, fnObj (Str.ofString "add_callers") (Str.ofString "add_callers") D105 (Value.str (Str.ofString "cpy313.pstats") 276) (Value.ref 104)),
  (111, { cls := Value.type "code", data := Data.fields #[Value.str (Str.ofString "count_calls") 349, Value.str (Str.ofString "count_calls") 350, Value.str (Str.ofString "/claim/cut.py") 351, Value.int 111 0, Value.int 1 0, Value.int 0 0, Value.int 0 0, Value.int 3 0, Value.ref 106, Value.bool true, Value.int 181 0, Value.ref 107, Value.none, Value.ref 108, Value.ref 109, Value.ref 110, Value.int 355 0, Value.int 111 0, Value.str (Str.ofString "/claim/cut.py") 356] }),
  (112, fnObj (Str.ofString "count_calls") (Str.ofString "count_calls") D112 (Value.str (Str.ofString "cpy313.pstats") 276) (Value.ref 111)),
  (128, { cls := Value.type "code", data := Data.fields #[Value.str (Str.ofString "__init__") 377, Value.str (Str.ofString "Whitespace.__init__") 378, Value.str (Str.ofString "/claim/cut.py") 379, Value.int 120 0, Value.int 2 0, Value.int 0 0, Value.int 0 0, Value.int 3 0, Value.ref 123, Value.bool true, Value.int 181 0, Value.ref 124, Value.none, Value.ref 125, Value.ref 126, Value.ref 127, Value.int 389 0, Value.int 120 0, Value.str (Str.ofString "/claim/cut.py") 390] }),
  (129, fnObj (Str.ofString "__init__") (Str.ofString "Whitespace.__init__") D129 (Value.str (Str.ofString "cpy313.tabnanny") 358) (Value.ref 128)),
  (142, { cls := Value.type "code", data := Data.fields #[Value.str (Str.ofString "indent_level") 399, Value.str (Str.ofString "Whitespace.indent_level") 400, Value.str (Str.ofString "/claim/cut.py") 401, Value.int 146 0, Value.int 2 0, Value.int 0 0, Value.int 0 0, Value.int 3 0, Value.ref 137, Value.bool true, Value.int 181 0, Value.ref 138, Value.none, Value.ref 139, Value.ref 140, Value.ref 141, Value.int 408 0, Value.int 146 0, Value.str (Str.ofString "/claim/cut.py") 409] }),
  (143, fnObj (Str.ofString "indent_level") (Str.ofString "Whitespace.indent_level") D143 (Value.str (Str.ofString "cpy313.tabnanny") 358) (Value.ref 142)),
  (173, { cls := Value.type "dict", data := Data.dict #[{ hash := PyData.keyHash P (Str.ofString "__module__"), key := Value.str (Str.ofString "__module__") 367, val := Value.str (Str.ofString "cpy313.tabnanny") 358 }, { hash := PyData.keyHash P (Str.ofString "__firstlineno__"), key := Value.str (Str.ofString "__firstlineno__") 371, val := Value.int 117 370 }, { hash := PyData.keyHash P (Str.ofString "S"), key := Value.str (Str.ofString "S") 375, val := Value.str (Str.ofString " ") 373 }, { hash := PyData.keyHash P (Str.ofString "T"), key := Value.str (Str.ofString "T") 376, val := Value.str (Str.ofString "\t") 374 }, { hash := PyData.keyHash P (Str.ofString "__init__"), key := Value.str (Str.ofString "__init__") 391, val := Value.ref 129 }, { hash := PyData.keyHash P (Str.ofString "longest_run_of_spaces"), key := Value.str (Str.ofString "longest_run_of_spaces") 398, val := Value.ref 136 }, { hash := PyData.keyHash P (Str.ofString "indent_level"), key := Value.str (Str.ofString "indent_level") 410, val := Value.ref 143 }, { hash := PyData.keyHash P (Str.ofString "equal"), key := Value.str (Str.ofString "equal") 418, val := Value.ref 150 }, { hash := PyData.keyHash P (Str.ofString "not_equal_witness"), key := Value.str (Str.ofString "not_equal_witness") 426, val := Value.ref 157 }, { hash := PyData.keyHash P (Str.ofString "less"), key := Value.str (Str.ofString "less") 434, val := Value.ref 164 }, { hash := PyData.keyHash P (Str.ofString "not_less_witness"), key := Value.str (Str.ofString "not_less_witness") 442, val := Value.ref 171 }, { hash := PyData.keyHash P (Str.ofString "__static_attributes__"), key := Value.str (Str.ofString "__static_attributes__") 448, val := Value.ref 172 }, { hash := PyData.keyHash P (Str.ofString "__dict__"), key := Value.str (Str.ofString "__dict__") 450, val := Value.ref 175 }, { hash := PyData.keyHash P (Str.ofString "__weakref__"), key := Value.str (Str.ofString "__weakref__") 452, val := Value.ref 176 }, { hash := PyData.keyHash P (Str.ofString "__doc__"), key := Value.str (Str.ofString "__doc__") 453, val := Value.none }] 4 }),
  (174, { cls := Value.type "type", data := Data.cls { name := Str.ofString "Whitespace", bases := [Value.type "object"], mro := [Value.ref 174, Value.type "object"], ns := 173, qualname := Str.ofString "Whitespace" }, slots := #[none, none, some (Value.str (Str.ofString "Whitespace") 360), some (Value.str (Str.ofString "Whitespace") 368), some (Value.builtin "object.__new__"), some (Value.bool true)] }),
  (182, { cls := Value.type "code", data := Data.fields #[Value.str (Str.ofString "_law_lead") 458, Value.str (Str.ofString "_law_lead") 459, Value.str (Str.ofString "/claim/cut.py") 460, Value.int 165 0, Value.int 3 0, Value.int 0 0, Value.int 0 0, Value.int 3 0, Value.ref 179, Value.bool true, Value.int 181 0, Value.ref 180, Value.none, Value.none, Value.none, Value.ref 181, Value.int 461 0, Value.int 165 0, Value.str (Str.ofString "/claim/cut.py") 462] }),
  (183, fnObj (Str.ofString "_law_lead") (Str.ofString "_law_lead") D183 (Value.str (Str.ofString "law_ph0171_01") 456) (Value.ref 182)),
  (189, { cls := Value.type "code", data := Data.fields #[Value.str (Str.ofString "_law_ways") 464, Value.str (Str.ofString "_law_ways") 465, Value.str (Str.ofString "/claim/cut.py") 466, Value.int 167 0, Value.int 2 0, Value.int 0 0, Value.int 0 0, Value.int 3 0, Value.ref 184, Value.bool true, Value.int 181 0, Value.ref 185, Value.none, Value.ref 186, Value.ref 187, Value.ref 188, Value.int 472 0, Value.int 167 0, Value.str (Str.ofString "/claim/cut.py") 473] }),
  (190, fnObj (Str.ofString "_law_ways") (Str.ofString "_law_ways") D190 (Value.str (Str.ofString "law_ph0171_01") 456) (Value.ref 189)),
  (196, { cls := Value.type "code", data := Data.fields #[Value.str (Str.ofString "_law_place") 475, Value.str (Str.ofString "_law_place") 476, Value.str (Str.ofString "/claim/cut.py") 477, Value.int 173 0, Value.int 3 0, Value.int 0 0, Value.int 0 0, Value.int 3 0, Value.ref 191, Value.bool true, Value.int 181 0, Value.ref 192, Value.none, Value.ref 193, Value.ref 194, Value.ref 195, Value.int 485 0, Value.int 173 0, Value.str (Str.ofString "/claim/cut.py") 486] }),
  (197, fnObj (Str.ofString "_law_place") (Str.ofString "_law_place") D197 (Value.str (Str.ofString "law_ph0171_01") 456) (Value.ref 196))]
def as : List Addr := [2, 3, 27, 28, 41, 42, 48, 49, 55, 56, 62, 63, 76, 77, 83, 84, 86, 87, 97, 98, 104, 105, 111, 112, 128, 129, 142, 143, 173, 174, 182, 183, 189, 190, 196, 197]
theorem as_eq (P : Params) : as = (K P).map (·.1) := by kernel_rfl
noncomputable abbrev H : Hook := kmHook K as as_eq [44, 37]

/-! the run of the top -/
abbrev pr : Program := PySem.Challenge.pw_ph0171_01
noncomputable def V : Program := view pr [20]
def loose : List Str := ["_wall","_DIV_LIMIT","_div2n1n","_div3n2n","_int2digits","_digits2int","_divmod_pos","int_divmod","TupleComp","add_func_stats","add_callers","count_calls","Whitespace","_law_lead","_law_ways","_law_place"]
noncomputable def foQ (p : Program) (w : World) (N : Nat) : Option Shared :=
  (Fast.tw10274390034422433532 Fast.tw14364793385576792824 (opening p) w N (Fast.tw1435165496053646825 (opening p)).1 (Fast.tw1435165496053646825 (opening p)).2).bind (Fast.tw14289696077712309145 p)
theorem foQ_eq (p : Program) (w : World) (N : Nat) : fencedOpening treeTable p w N = foQ p w N := by
  unfold fencedOpening foQ
  rw [Fast.te10274390034422433532, Fast.te14289696077712309145, Fast.te1435165496053646825, Fast.te14364793385576792824]
noncomputable def tfQ (p : Program) (w : World) (N : Nat) (s₀ : Shared) : Option Shared :=
  match s₀.heap.isNs mainGlobals && s₀.gens.size == 0 with
  | true => (Fast.tw14082659384304107361 Fast.tw14364793385576792824 p w s₀.heap.objs.size (s₀.heap.nsMap mainGlobals "__annotations__") N s₀ (topStub p)).bind fun s₁ => match staticsOk (importedModules p.main.body) s₀.heap s₁.heap && namesBound p s₁.heap && gensDone s₁ && laidKept s₀.heap s₁.heap with
      | true => some s₁
      | false => none
  | false => none
theorem tfQ_eq (p : Program) (w : World) (N : Nat) : topFrom treeTable p w N = tfQ p w N := by
  funext s
  unfold topFrom tfQ
  rw [Fast.te14082659384304107361, Fast.te14364793385576792824]
  rfl
noncomputable def oeQ (p : Program) (w : World) (N : Nat) : Option Shared := (foQ p w N).bind (tfQ p w N)
theorem oeQ_eq (p : Program) (w : World) (N : Nat) : openEnds treeTable p w N = oeQ p w N := by
  unfold openEnds oeQ
  rw [foQ_eq, tfQ_eq]
abbrev R : OpenLaw := PySem.Challenge.rw_ph0171_01
noncomputable abbrev Xt (s : Shared) : Bool := xlAt V [] s && recOk R.row.toRowW.records s
abbrev LeftAt (w : World) : Prop := (oeQ pr w 2636).map (fun s => (openSeen V loose (importedModules pr.main.body) Xt true s, H.obs s)) = some (openGood V loose, H.val w)
theorem leftF (w : World) : LeftAt (w.withFollow "special-get-raises" false) := by kernel_rfl
theorem leftT (w : World) : LeftAt (w.withFollow "special-get-raises" true) := by kernel_rfl
theorem left : LeftO pr V loose Xt H.obs H.val 2636 := fun w => by
  rw [oeQ_eq]
  exact byRow2 "special-get-raises" (P := LeftAt) leftF leftT w
theorem said : R.wellSaid = true := by kernel_rfl
noncomputable abbrev dl : DefRec := { name := "law", params := D202.1, body := D202.2.1, scope := D202.2.2, pos := (t 20).pos }
theorem hd (walk : WalkO V loose (XL V []) H.says R.row.toRowW dl [] fun f vs => PySem.call f vs) : R.Holds :=
  holds_law said fun said => holds_open (q := V) (loose := loose) (XP := XL V []) (YP := H.says) (d := dl) (kwd := []) left H.of H.keeps (fun s e => xl_of s (Bool.and_eq_true_iff.mp e).1) XL.keeps (by rfl) (by rfl) (by rfl)
    (fun s e => recFacts_of (Bool.and_eq_true_iff.mp e).2) (by rfl) said (by decide +kernel) ⟨rfl, rfl, rfl, rfl, rfl, by decide +kernel⟩ ⟨[.list [.int 3, .int 1]], by decide +kernel, by decide +kernel⟩ walk
end
end Mine
open PySem.Calls PyProof.V PySem.Spec
namespace Mine
/-! ## B1 -/
noncomputable abbrev KF (w : World) : Frag := Mine.K w.params

/-! the world that a frame reads -/
structure Wd (w : World) (mg mb : Str → Option Value) (h : Heap) : Prop where
  K : (KF w).In h
  g : h.Ns mainGlobals mg
  b : h.Ns builtinsNs mb
  nl : h.NoLimit
  bb : ∀ x : Str, x ≠ "__name__" → mb x = bootBuiltins x

theorem Wd.keeps {w mg mb h h'} (W : Wd w mg mb h) (k : ∀ b o, h.get? b = some o → h'.get? b = some o) : Wd w mg mb h' :=
  ⟨W.K.keeps k, W.g.keeps k, W.b.keeps k, W.nl.keeps k, W.bb⟩

/-! room of the stack -/
structure Rm (A : Around) (k : Nat) : Prop where
  hh : A.handled = none
  dp : A.depth + 10 * k ≤ 700
  un : A.units + 40 * k ≤ 5000

theorem Rm.mono {A : Around} {k j : Nat} (R : Rm A k) (h : j ≤ k) : Rm A j := ⟨R.hh, by have := R.dp; omega, by have := R.un; omega⟩
theorem Rm.deeper {A : Around} {k : Nat} {env : Env} (R : Rm A (k + 1)) : Rm (A.deeper env) k :=
  ⟨R.hh, by have := R.dp; simp only [Around.deeper]; omega, by have := R.un; simp only [Around.deeper]; omega⟩
theorem Rm.in1 {A : Around} {k : Nat} (R : Rm A (k + 1)) : Rm A.in1 k :=
  ⟨R.hh, by have := R.dp; simp only; omega, by have := R.un; simp only; omega⟩
theorem Rm.room {A : Around} {k : Nat} (R : Rm A k) : A.depth < recursionLimit := by
  have := R.dp; have e : recursionLimit = 1000 := rfl; omega
theorem Rm.units {A : Around} {k : Nat} (R : Rm A k) : A.units < cLine := by
  have := R.un; have e : cLine = 9900 := rfl; omega

/-! states that part in heap and tokens alone -/
structure Same (s0 s : Shared) : Prop where
  gens : s.gens = s0.gens
  drawn : s.drawn = s0.drawn
  os : s.os = s0.os
theorem Same.refl (s : Shared) : Same s s := ⟨rfl, rfl, rfl⟩
theorem Same.trans {a b c : Shared} (x : Same a b) (y : Same b c) : Same a c := ⟨y.gens.trans x.gens, y.drawn.trans x.drawn, y.os.trans x.os⟩
theorem Same.eta {s0 s : Shared} (x : Same s0 s) : s = { s0 with heap := s.heap, toks := s.toks } := by
  obtain ⟨h, g, d, t, o⟩ := s
  obtain ⟨a, b, c⟩ := x
  cases a; cases b; cases c; rfl

/-! s' keeps all that s holds -/
structure Up (s s' : Shared) : Prop where
  same : Same s s'
  keep : ∀ b o, s.heap.get? b = some o → s'.heap.get? b = some o
theorem Up.refl (s : Shared) : Up s s := ⟨.refl s, fun _ _ e => e⟩
theorem Up.trans {a b c : Shared} (x : Up a b) (y : Up b c) : Up a c := ⟨x.same.trans y.same, fun b o e => y.keep b o (x.keep b o e)⟩
theorem Up.keeps {s s' : Shared} (x : Up s s') : Keeps s s' := ⟨s'.heap, s'.toks, x.same.eta, x.keep⟩
theorem Up.of_keeps {s s' : Shared} (x : Keeps s s') : Up s s' := by obtain ⟨h, t, rfl, k⟩ := x; exact ⟨⟨rfl, rfl, rfl⟩, k⟩
theorem Up.wd {s s' : Shared} {w mg mb} (x : Up s s') (W : Wd w mg mb s.heap) : Wd w mg mb s'.heap := W.keeps x.keep

/-! a frame's names and their values -/
def lk : List Str → List (Option Value) → Str → Option Value
  | n :: ns, v :: vs, x => if x = n then v else lk ns vs x
  | _, _, _ => none
def pos : List Str → Str → Option Nat
  | [], _ => none
  | n :: ns, x => if x = n then some 0 else (pos ns x).map (· + 1)
theorem lk_pos : ∀ {ns : List Str} {vs : List (Option Value)} {x : Str} {i : Nat}, pos ns x = some i → lk ns vs x = vs[i]?.join
  | [], _, _, _, h => by cases h
  | n :: ns, [], x, i, _ => by simp [lk]
  | n :: ns, v :: vs, x, i, h => by
    unfold pos at h
    unfold lk
    by_cases e : x = n
    · rw [if_pos e] at h ⊢; cases h; simp
    · rw [if_neg e] at h ⊢
      cases hp : pos ns x with
      | none => rw [hp] at h; cases h
      | some j => rw [hp] at h; cases h; rw [lk_pos hp]; simp
theorem lk_set : ∀ {ns : List Str} {vs : List (Option Value)} {x : Str} {i : Nat} {v : Option Value}, pos ns x = some i → i < vs.length →
    lk ns (vs.set i v) = fun y => if y = x then v else lk ns vs y
  | [], _, _, _, _, h, _ => by cases h
  | n :: ns, [], x, i, _, _, h => by simp at h
  | n :: ns, u :: vs, x, i, v, h, hi => by
    unfold pos at h
    by_cases e : x = n
    · rw [if_pos e] at h; cases h; subst e
      funext y
      simp only [List.set_cons_zero, lk]
      split <;> rfl
    · rw [if_neg e] at h
      cases hp : pos ns x with
      | none => rw [hp] at h; cases h
      | some j =>
        rw [hp] at h; cases h
        have hj : j < vs.length := by simpa using hi
        have ih := lk_set (v := v) hp hj
        funext y
        simp only [List.set_cons_succ, lk]
        by_cases e2 : y = n
        · subst e2; rw [if_pos rfl, if_pos rfl, if_neg (fun q => e q.symm)]
        · rw [if_neg e2, if_neg e2, ih]
theorem lk_nones : ∀ (ns : List Str) (k : Nat) (x : Str), lk ns (List.replicate k none) x = none
  | [], _, _ => rfl
  | _ :: _, 0, _ => rfl
  | n :: ns, k + 1, x => by rw [List.replicate_succ, lk]; split; rfl; exact lk_nones ns k x
theorem lk_app : ∀ (ps rest : List Str) (vs : List (Option Value)) (k : Nat) (x : Str), vs.length = ps.length → lk (ps ++ rest) (vs ++ List.replicate k none) x = lk ps vs x
  | [], rest, [], k, x, _ => by rw [List.nil_append, List.nil_append, lk_nones]; rfl
  | p :: ps, rest, v :: vs, k, x, h => by
    simp only [List.cons_append, lk]
    split
    · rfl
    · exact lk_app ps rest vs k x (by simpa using h)
  | [], _, _ :: _, _, _, h => by simp at h
  | _ :: _, _, [], _, _, h => by simp at h
theorem lk_binds (ps rest : List Str) (args : List Value) (hnd : ps.Nodup) (hl : args.length = ps.length) :
    (fun x => (ps.zip args).reverse.lookup x) = lk (ps ++ rest) (args.map some ++ List.replicate rest.length none) := by
  funext x
  rw [lk_app _ _ _ _ _ (by simpa using hl)]
  induction ps generalizing args with
  | nil => cases args with
    | nil => rfl
    | cons _ _ => simp at hl
  | cons p ps ih => cases args with
    | nil => simp at hl
    | cons a args =>
      rw [List.nodup_cons] at hnd
      simp only [List.zip_cons_cons, List.reverse_cons, List.lookup_append, List.map_cons, lk]
      rw [ih args hnd.2 (by simpa using hl)]
      by_cases e : x = p
      · subst e
        have hn : lk ps (args.map some) x = none := by
          clear ih hl
          have h1 := hnd.1
          clear hnd
          induction ps generalizing args with
          | nil => rfl
          | cons q qs ihq => cases args with
            | nil => rfl
            | cons b bs =>
              simp only [List.mem_cons, not_or] at h1
              simp only [List.map_cons, lk]
              rw [if_neg h1.1]
              exact ihq bs h1.2
        rw [hn, if_pos rfl]; simp
      · rw [if_neg e]
        have : (x == p) = false := by simpa using e
        simp [List.lookup_cons, this]

/-! the state of a frame -/
structure Cx (g : Heap) (s0 : Shared) (L : Addr) (ns : List Str) (vs : List (Option Value)) (N : List (Addr × Obj)) (s : Shared) : Prop where
  fr : Fr g L s.heap (lk ns vs)
  nw : News g L s.heap N
  nd : (N.map (·.1)).Nodup
  same : Same s0 s

structure EnvL (env : Env) (L : Addr) : Prop where
  loc : env.locals = L
  glo : env.globals = mainGlobals
  kind : env.scope.kind = .function
  bui : env.builtins = builtinsNs

section
variable {w : World} {mg mb : Str → Option Value} {M : Model} {prog : Program} {A : Around} {E : Value → Shared → Prop} {g : Heap} {s0 s s' : Shared} {L : Addr} {ns : List Str} {vs : List (Option Value)} {N : List (Addr × Obj)} {env : Env}

theorem Cx.up (C : Cx g s0 L ns vs N s) (u : Up s s') : Cx g s0 L ns vs N s' :=
  ⟨C.fr.keeps u.keep, fun p hp => ⟨u.keep _ _ (C.nw p hp).1, (C.nw p hp).2⟩, C.nd, C.same.trans u.same⟩
theorem Cx.toks (C : Cx g s0 L ns vs N s) (k : Nat) : Cx g s0 L ns vs N { s with toks := k } := ⟨C.fr, C.nw, C.nd, ⟨C.same.gens, C.same.drawn, C.same.os⟩⟩
theorem Cx.ne {a : Addr} (C : Cx g s0 L ns vs N s) (h : s.heap.get? a = none) : a ≠ L ∧ g.get? a = none ∧ a ∉ N.map (·.1) := by
  refine ⟨?_, ?_, ?_⟩
  · rintro rfl
    obtain ⟨o, _, _, e, _⟩ := C.fr.ns
    rw [h] at e; cases e
  · cases e : g.get? a with
    | none => rfl
    | some o => rw [C.fr.keep _ _ e] at h; cases h
  · intro hm
    obtain ⟨p, hp, rfl⟩ := List.mem_map.mp hm
    rw [(C.nw p hp).1] at h; cases h
/-- a new object is known from here on -/
theorem Cx.add {a : Addr} {o : Obj} (C : Cx g s0 L ns vs N s) (hn : s.heap.get? a = none) (u : Up s s') (ho : s'.heap.get? a = some o) : Cx g s0 L ns vs ((a, o) :: N) s' := by
  obtain ⟨h1, h2, h3⟩ := C.ne hn
  have C' := C.up u
  refine ⟨C'.fr, fun p hp => ?_, ?_, C'.same⟩
  · rcases List.mem_cons.mp hp with rfl | hp
    · exact ⟨ho, h1, h2⟩
    · exact C'.nw p hp
  · rw [List.map_cons, List.nodup_cons]; exact ⟨h3, C.nd⟩
theorem fresh_size (h : Heap) : h.get? h.objs.size = none := by
  cases e : h.get? h.objs.size with
  | none => rfl
  | some o => exact absurd (Heap.lt_size e) (Nat.lt_irrefl _)
theorem Cx.push (C : Cx g s0 L ns vs N s) (o : Obj) (hf : o.isFreed = false) : Cx g s0 L ns vs ((s.heap.objs.size, o) :: N) { s with heap := s.heap.push o } :=
  C.add (fresh_size _) ⟨⟨rfl, rfl, rfl⟩, fun _ _ e => Heap.get?_push_of_some _ e⟩ (Heap.get?_push_size _ hf)
theorem Cx.sub {N' : List (Addr × Obj)} (C : Cx g s0 L ns vs N s) (h : N'.Sublist N) : Cx g s0 L ns vs N' s :=
  ⟨C.fr, fun p hp => C.nw p (h.subset hp), List.Pairwise.sublist (h.map _) C.nd, C.same⟩
theorem Cx.drop (p : Addr × Obj) (C : Cx g s0 L ns vs (p :: N) s) : Cx g s0 L ns vs N s := C.sub (List.sublist_cons_self _ _)
theorem Cx.get {a : Addr} {o : Obj} (C : Cx g s0 L ns vs N s) (h : (a, o) ∈ N) : s.heap.get? a = some o := (C.nw _ h).1
theorem Cx.wd (C : Cx g s0 L ns vs N s) (W : Wd w mg mb g) : Wd w mg mb s.heap := W.keeps C.fr.keep

/-- an object of the frame's own is changed -/
theorem set_mem : ∀ {N : List (Addr × Obj)} {i : Nat} {a : Addr} {o o' : Obj} {p : Addr × Obj}, (N.map (·.1)).Nodup → N[i]? = some (a, o) → p ∈ N.set i (a, o') → p = (a, o') ∨ (p ∈ N ∧ p.1 ≠ a)
  | [], _, _, _, _, _, _, h, _ => by simp at h
  | q :: N, 0, a, o, o', p, nd, h, hp => by
    simp at h; subst h
    rw [List.map_cons, List.nodup_cons] at nd
    rcases List.mem_cons.mp hp with rfl | hp
    · exact .inl rfl
    · exact .inr ⟨.tail _ hp, fun e => nd.1 (e ▸ List.mem_map.mpr ⟨p, hp, rfl⟩)⟩
  | q :: N, i + 1, a, o, o', p, nd, h, hp => by
    rw [List.map_cons, List.nodup_cons] at nd
    simp at h
    rw [List.set_cons_succ] at hp
    rcases List.mem_cons.mp hp with rfl | hp
    · exact .inr ⟨.head _, fun e => nd.1 (e ▸ List.mem_map.mpr ⟨_, List.mem_of_getElem? h, rfl⟩)⟩
    · rcases set_mem nd.2 h hp with h1 | ⟨h1, h2⟩
      · exact .inl h1
      · exact .inr ⟨.tail _ h1, h2⟩
theorem set_map : ∀ {N : List (Addr × Obj)} {i : Nat} {a : Addr} {o o' : Obj}, N[i]? = some (a, o) → (N.set i (a, o')).map (·.1) = N.map (·.1)
  | [], _, _, _, _, h => by simp at h
  | q :: N, 0, a, o, o', h => by simp at h; subst h; rfl
  | q :: N, i + 1, a, o, o', h => by simp at h; rw [List.set_cons_succ, List.map_cons, set_map h, List.map_cons]
theorem Cx.modAt {j : Nat} {a : Addr} {o o' : Obj} (C : Cx g s0 L ns vs N s) (hi : N[j]? = some (a, o)) (same : Same s s') (hk : ∀ b ob, b ≠ a → s.heap.get? b = some ob → s'.heap.get? b = some ob) (ho : s'.heap.get? a = some o') :
    Cx g s0 L ns vs (N.set j (a, o')) s' := by
  have hm := C.nw _ (List.mem_of_getElem? hi)
  refine ⟨⟨C.fr.ns.at' fun ob e => hk _ ob (Ne.symm hm.2.1) e, fun b ob e => hk b ob (fun q => by rw [q, hm.2.2] at e; cases e) (C.fr.keep b ob e), C.fr.above⟩, fun p hp => ?_, by rw [set_map hi]; exact C.nd, C.same.trans same⟩
  rcases set_mem C.nd hi hp with rfl | ⟨h1, h2⟩
  · exact ⟨ho, hm.2⟩
  · exact ⟨hk _ _ h2 (C.nw p h1).1, (C.nw p h1).2⟩
theorem Cx.chg {i : Nat} {a : Addr} {o o' : Obj} {h' : Heap} {tk : Nat} (C : Cx g s0 L ns vs N s) (hi : N[i]? = some (a, o)) (hs : Heap.SameBut a s.heap h') (ho : h'.get? a = some o') :
    Cx g s0 L ns vs (N.set i (a, o')) { s with heap := h', toks := tk } := C.modAt hi ⟨rfl, rfl, rfl⟩ (fun b _ hb e => (hs.2 b hb).trans e) ho

/-! names -/
structure IsLoc (env : Env) (ns : List Str) (x : Str) (i : Nat) : Prop where
  k : env.kindOf x = some .local
  p : pos ns x = some i
  d : (x == ("__debug__" : Str)) = false

theorem nmL {x : Str} {i : Nat} {v : Value} {p : Pos} {Q : Value → Shared → Prop} (C : Cx g s0 L ns vs N s) (hE : EnvL env L) (hx : IsLoc env ns x i) (hv : vs[i]? = some (some v)) (h : Q v s) :
    wpAny M A (eval (.Name x p) env) Q E s :=
  wpAny_Name (wpAny_loadName_local hE.kind hx.k (hE.loc ▸ C.fr.ns) (by rw [lk_pos hx.p, hv]; rfl) h) hx.d
theorem ldL {x : Str} {i : Nat} {v : Value} {Q : Value → Shared → Prop} (C : Cx g s0 L ns vs N s) (hE : EnvL env L) (hx : IsLoc env ns x i) (hv : vs[i]? = some (some v)) (h : Q v s) :
    wpAny M A (loadName env x) Q E s :=
  wpAny_loadName_local hE.kind hx.k (hE.loc ▸ C.fr.ns) (by rw [lk_pos hx.p, hv]; rfl) h
theorem stL {x : Str} {i : Nat} {v : Value} {Q : Unit → Shared → Prop} (C : Cx g s0 L ns vs N s) (hE : EnvL env L) (hx : IsLoc env ns x i) (hi : i < vs.length)
    (h : ∀ s', Cx g s0 L ns (vs.set i (some v)) N s' → Q () s') : wpAny M A (storeName env x v) Q E s := by
  have hL := hE.loc
  subst hL
  refine wpAny_storeName_local hx.k C.fr.ns (fun h' hn hs => h _ ⟨?_, C.nw.set hs, C.nd, ⟨C.same.gens, C.same.drawn, C.same.os⟩⟩) (by rw [hE.kind]; rfl)
  refine C.fr.set ?_ hs
  rw [lk_set hx.p hi]; exact hn

/-! globals -/
theorem mg_K {x : Str} {v : Value} {h : Heap} (W : Wd w mg mb h) (e : nsIn (KF w) mainGlobals x = some (some v)) : mg x = some v := mg_of W.K W.g e
theorem mg_B {x : Str} {h : Heap} (W : Wd w mg mb h) (e : nsIn (KF w) mainGlobals x = some none) : mg x = none := mg_none_of W.K W.g e

structure IsGlb (env : Env) (x : Str) : Prop where
  k : env.kindOf x = some .globalImplicit
  d : (x == ("__debug__" : Str)) = false
theorem nmG {x : Str} {v : Value} {p : Pos} {Q : Value → Shared → Prop} (W : Wd w mg mb s.heap) (hE : EnvL env L) (hx : IsGlb env x) (e : mg x = some v) (h : Q v s) :
    wpAny M A (eval (.Name x p) env) Q E s :=
  Name_function_global hE.kind hx.k (loadGlobal_global (env := env) (by rw [hE.glo]; exact W.g) e h) hx.d
theorem nmB {x : Str} {v : Value} {p : Pos} {Q : Value → Shared → Prop} (W : Wd w mg mb s.heap) (hE : EnvL env L) (hx : IsGlb env x) (e : mg x = none) (hn : x ≠ "__name__") (hv : bootBuiltins x = some v) (h : Q v s) :
    wpAny M A (eval (.Name x p) env) Q E s :=
  Name_function_global hE.kind hx.k (loadGlobal_builtin (env := env) (by rw [hE.glo]; exact W.g) e (by rw [hE.bui]; exact W.b) ((W.bb x hn).trans hv) h) hx.d
end
/-! ## B2 -/
section
variable {w : World} {mg mb : Str → Option Value} {M : Model} {prog : Program} {A : Around} {E : Value → Shared → Prop} {g : Heap} {s0 s s' : Shared} {L : Addr} {ns : List Str} {vs : List (Option Value)} {N : List (Addr × Obj)} {env : Env}

/-! constants, operators on ints -/
theorem cInt {i : Int} {k : Nat} {p : Pos} {Q : Value → Shared → Prop} (C : Cx g s0 L ns vs N s) (h : ∀ s' t, Cx g s0 L ns vs N s' → Q (.int i t) s') :
    wpAny M A (eval (.Constant (.int i) k p) env) Q E s := wpAny_Constant_int (h _ _ (C.toks _))
theorem cStr {i : Str} {k : Nat} {p : Pos} {Q : Value → Shared → Prop} (C : Cx g s0 L ns vs N s) (h : ∀ s' t, Cx g s0 L ns vs N s' → Q (.str i t) s') :
    wpAny M A (eval (.Constant (.str i) k p) env) Q E s := PySem.Calls.Constant_str (h _ _ (C.toks _))
theorem cBool {b : Bool} {k : Nat} {p : Pos} {Q : Value → Shared → Prop} (h : Q (.bool b) s) :
    wpAny M A (eval (.Constant (.bool b) k p) env) Q E s := wpAny_Constant_bool h

theorem mulOk {a b : Int} (hb : b.natAbs < 2 ^ 63) : IntMulOk a b := IntMulOk.of_right (PySem.intBits_le_64 (by omega) (by omega))

theorem oAdd {a b : Int} {t u : Tok} {Q : Value → Shared → Prop} (C : Cx g s0 L ns vs N s) (h : ∀ s' t, Cx g s0 L ns vs N s' → Q (.int (a + b) t) s') :
    wpAny (model prog w) A (binaryOp .Add (.int a t) (.int b u)) Q E s := add_int (h _ _ (C.toks _))
theorem oSub {a b : Int} {t u : Tok} {Q : Value → Shared → Prop} (C : Cx g s0 L ns vs N s) (h : ∀ s' t, Cx g s0 L ns vs N s' → Q (.int (a - b) t) s') :
    wpAny (model prog w) A (binaryOp .Sub (.int a t) (.int b u)) Q E s := sub_int (h _ _ (C.toks _))
theorem oMul {a b : Int} {t u : Tok} {Q : Value → Shared → Prop} (C : Cx g s0 L ns vs N s) (hb : b.natAbs < 2 ^ 63) (h : ∀ s' t, Cx g s0 L ns vs N s' → Q (.int (a * b) t) s') :
    wpAny (model prog w) A (binaryOp .Mult (.int a t) (.int b u)) Q E s := PyProof.Rows.mul_int (h _ _ (C.toks _)) (mulOk hb)
theorem oMod {a b : Int} {t u : Tok} {Q : Value → Shared → Prop} (C : Cx g s0 L ns vs N s) (hb : b ≠ 0) (h : ∀ s' t, Cx g s0 L ns vs N s' → Q (.int (Int.fmod a b) t) s') :
    wpAny (model prog w) A (binaryOp .Mod (.int a t) (.int b u)) Q E s := mod_int' hb (h _ _ (C.toks _))
theorem oDiv {a b : Int} {t u : Tok} {Q : Value → Shared → Prop} (C : Cx g s0 L ns vs N s) (hb : b ≠ 0) (hs : b.natAbs < 1073741824) (h : ∀ s' t, Cx g s0 L ns vs N s' → Q (.int (Int.fdiv a b) t) s') :
    wpAny (model prog w) A (binaryOp .FloorDiv (.int a t) (.int b u)) Q E s := floordiv_int hb (h _ _ (C.toks _)) (.inl (PyProof.noPylong_small hs))
theorem oNeg {a : Int} {t : Tok} {Q : Value → Shared → Prop} (C : Cx g s0 L ns vs N s) (h : ∀ s' t, Cx g s0 L ns vs N s' → Q (.int (-a) t) s') :
    wpAny (model prog w) A (unaryOp .USub (.int a t)) Q E s := PyProof.Rows.neg_int (h _ _ (C.toks _))

/-! tests -/
theorem tCmp {l r : Expr} {op : CmpOp} {p : Pos} {whole : Sem Value} {Q : Bool → Shared → Prop}
    (h : wpAny M A (eval l env) (fun a s₁ => wpAny M A (eval r env) (fun b s₂ => wpAny M A (compareOp op a b)
      (fun c s₃ => wpAny M A (truthy c) Q E s₃) E s₂) E s₁) E s) (hm : behindInMarks op r = false) : wpAny M A (isTrue (.Compare l [op] [r] p) env whole) Q E s := wpAny_isTrue_Compare1 h hm
theorem ifE {test body orelse : Expr} {p : Pos} {Q : Value → Shared → Prop}
    (h : wpAny M A (isTrue test env (eval test env)) (fun b s₁ => (b = true → wpAny M A (eval body env) Q E s₁) ∧ (b = false → wpAny M A (eval orelse env) Q E s₁)) E s) :
    wpAny M A (eval (.IfExp test body orelse p) env) Q E s :=
  wpAny_IfExp (wpAny_mono h (fun b s₂ hb => by
    cases b
    · exact hb.2 rfl
    · exact hb.1 rfl) fun _ _ e => e)

/-! lists -/
theorem newL {l : List Value} {Q : Value → Shared → Prop} (C : Cx g s0 L ns vs N s) (hz : l.length ≤ sizeLine) (h : ∀ s' a, Cx g s0 L ns vs ((a, listOf l.toArray 0) :: N) s' → Q (.ref a) s') :
    wpAny M A (newList l) Q E s := wpAny_newObj_type (h _ _ (C.push _ rfl)) (by show l.toArray.size ≤ sizeLine; rw [List.size_toArray]; exact hz)
theorem newT {l : List Value} {Q : Value → Shared → Prop} (C : Cx g s0 L ns vs N s) (hz : l.length ≤ sizeLine) (h : ∀ s' a, Cx g s0 L ns vs ((a, { cls := .type "tuple", data := .seq l.toArray }) :: N) s' → Q (.ref a) s') :
    wpAny M A (newTuple l) Q E s := wpAny_newObj_type (h _ _ (C.push _ rfl)) (by show l.toArray.size ≤ sizeLine; rw [List.size_toArray]; exact hz)
theorem Cx.toFN (C : Cx g s0 L ns vs N s) : Fr g L s.heap (lk ns vs) ∧ News g L s.heap N := ⟨C.fr, C.nw⟩
theorem Cx.ofFN {a : Addr} {o : Obj} {h' : Heap} {tk : Nat} (C : Cx g s0 L ns vs N s) (ha : a = s.heap.objs.size) (F : Fr g L h' (lk ns vs)) (K : News g L h' ((a, o) :: N)) : Cx g s0 L ns vs ((a, o) :: N) { s with heap := h', toks := tk } := by
  refine ⟨F, K, ?_, ⟨C.same.gens, C.same.drawn, C.same.os⟩⟩
  rw [List.map_cons, List.nodup_cons]
  exact ⟨by rw [ha]; exact (C.ne (fresh_size _)).2.2, C.nd⟩
theorem mulL {l : Addr} {its : Array Value} {k : Nat} {x : Int} {u : Tok} {Q : Value → Shared → Prop} (C : Cx g s0 L ns vs N s) (hl : s.heap.get? l = some (listOf its k)) (h0 : 0 ≤ x) (hz : its.size * x.toNat ≤ 2 ^ 24) (h1 : x < 2 ^ 63)
    (h : ∀ s' a, Cx g s0 L ns vs ((a, listOf (List.replicate x.toNat its.toList).flatten.toArray 0) :: N) s' → Q (.ref a) s') :
    wpAny (model prog w) A (binaryOp .Mult (.ref l) (.int x u)) Q E s := by
  refine mul_list C.fr C.nw hl (by omega) h1 hz fun h' F' N' => ?_
  have e : List.foldl (fun x1 x2 => x1 ++ x2) #[] (List.replicate (if its.isEmpty = true then 0 else x.toNat) its) = (List.replicate x.toNat its.toList).flatten.toArray := by
    have aux : ∀ (n : Nat) (acc : Array Value), List.foldl (fun x1 x2 => x1 ++ x2) acc (List.replicate n its) = acc ++ (List.replicate n its.toList).flatten.toArray := by
      intro n
      induction n with
      | zero => intro acc; simp
      | succ n ih => intro acc; rw [List.replicate_succ, List.foldl_cons, ih, List.replicate_succ, List.flatten_cons]; apply Array.ext'; simp
    rw [aux]
    by_cases he : its.isEmpty = true
    · have : its = #[] := by simpa using he
      subst this
      have aux2 : ∀ n, (List.replicate n ([] : List Value)).flatten = [] := by intro n; induction n with | zero => rfl | succ n ih => rw [List.replicate_succ, List.flatten_cons, ih]; rfl
      simp [aux2]
    · rw [if_neg he]; simp
  rw [e] at N'
  exact h _ _ (C.ofFN rfl F' N')
theorem addL {l b : Addr} {its its2 : Array Value} {k k2 : Nat} {Q : Value → Shared → Prop} (C : Cx g s0 L ns vs N s) (hl : s.heap.get? l = some (listOf its k)) (hb : s.heap.get? b = some (listOf its2 k2)) (hz : its.size + its2.size ≤ sizeLine)
    (h : ∀ s' a, Cx g s0 L ns vs ((a, listOf (its.toList ++ its2.toList).toArray 0) :: N) s' → Q (.ref a) s') :
    wpAny (model prog w) A (binaryOp .Add (.ref l) (.ref b)) Q E s :=
  add_arrays C.fr C.nw ⟨_, hl, rfl, _, rfl⟩ ⟨_, hb, rfl, _, rfl⟩ (fun _ F' N' => h _ _ (C.ofFN rfl F' N')) hz
theorem itemL {value slice : Expr} {l : Addr} {its : Array Value} {k : Nat} {i : Int} {u : Tok} {v : Value} {Q : Value → Shared → Prop} (hl : s.heap.get? l = some (listOf its k)) (h0 : 0 ≤ i) (h1 : i < 2 ^ 63) (hv : its[i.toNat]? = some v) (h : Q v s)
    (hs : subscripted slice false (.ref l) (.int i u) = operate [.ref l, .int i u] (getItem (.ref l) (.int i u))) (hg : ∀ r, letTemporaryGo value (.ref l) r = pure ()) :
    wpAny (model prog w) A (subscriptTail value slice (.ref l) (.int i u)) Q E s :=
  PyProof.Rows.item_list ⟨_, hl, rfl, _, rfl⟩ h0 h1 hv h hs hg
theorem setL {j : Nat} {l : Addr} {its : Array Value} {k : Nat} {i : Int} {u : Tok} {v : Value} {Q : Unit → Shared → Prop} (C : Cx g s0 L ns vs N s) (hj : N[j]? = some (l, listOf its k)) (h0 : 0 ≤ i) (h1 : i < its.size) (h2 : i < 2 ^ 63)
    (h : ∀ s', Cx g s0 L ns vs (N.set j (l, listOf (its.setIfInBounds i.toNat v) k)) s' → Q () s') :
    wpAny (model prog w) A (setItem (.ref l) (.int i u) v) Q E s := by
  have hl := C.get (List.mem_of_getElem? hj)
  refine ki_setAt hl h0 h2 h1 (h _ (C.chg (tk := s.toks) hj (Heap.SameBut.update ..) ?_))
  have q := PySem.IsL.update hl (fun x => x.setIfInBounds i.toNat v)
  rw [if_pos (by simp)] at q
  exact q
end
/-! ## B3 -/
/-- all is kept but the objects of l -/
structure Kp (l : List Addr) (s s' : Shared) : Prop where
  same : Same s s'
  keep : ∀ b o, b ∉ l → s.heap.get? b = some o → s'.heap.get? b = some o
theorem Kp.up {s s' : Shared} (k : Kp [] s s') : Up s s' := ⟨k.same, fun b o => k.keep b o List.not_mem_nil⟩

/-- what the names of a block mean in its environment -/
structure Blk (scope : Scope) (env : Env) (cdv : Value) (cl : List (Str × Addr)) : Prop where
  loc : ∀ {ns : List Str} {x : Str} {i : Nat}, scope.names.lookup x = some .local → pos ns x = some i → (x == ("__debug__" : Str)) = false → IsLoc env ns x i
  glb : ∀ {x : Str}, scope.names.lookup x = some .globalImplicit → (x == ("__debug__" : Str)) = false → IsGlb env x
  kind : ∀ {x : Str} {k : NameKind}, scope.names.lookup x = some k → env.kindOf x = some k
  cells : env.cells = cl
  code : env.code = cdv
  itr : interactive env = false
/-! the entry of a plain def; hid: objects that it may change -/
theorem enterG {w : World} {mg mb : Str → Option Value} {prog : Program} {A : Around} {s : Shared} {R : Result → Shared → Prop} {k : Nat} {g : Heap} (hid : List (Addr × Obj))
    {f : Addr} {oc : Value} {od : Option Addr} {osl : Array (Option Value)} {name qual : Str} {params : Arguments} {body : List Stmt} {scope : Scope} {cl : List (Str × Addr)} {dV kV doc pm cdv ct : Value} {an : Option Addr} {args : List Value} {rest : List Str}
    (W : Wd w mg mb g) (hgk : ∀ b o, g.get? b = some o → s.heap.get? b = some o) (hgs : g.objs.size ≤ s.heap.objs.size) (hhid : ∀ p ∈ hid, s.heap.get? p.1 = some p.2 ∧ g.get? p.1 = none) (hhn : (hid.map (·.1)).Nodup) (hR : Rm A (k + 1))
    (ho : g.get? f = some ⟨oc, od, .func (fnX name qual params body scope cl dV kV doc pm an cdv ct), osl⟩) (hcd : g.CodeRec cdv qual)
    (hbind : bindArgs (fnX name qual params body scope cl dV kV doc pm an cdv ct) ⟨args, []⟩ = pure ((params.args.map (·.arg)).zip args))
    (hloc : ∀ x ∈ params.args.map (·.arg), scope.names.lookup x = some .local) (hnd : (params.args.map (·.arg)).Nodup) (hlen : args.length = (params.args.map (·.arg)).length)
    (h : ∀ (env : Env) (L : Addr) (A' : Around) (E : Value → Shared → Prop) (Q : Flow → Shared → Prop) (s1 : Shared), env = envX qual scope L f cdv cl → Blk scope env cdv cl → EnvL env L → Rm A' k →
      (∀ v s', R (.ok (.ret v)) s' → Q (.ret v) s') → (∀ s', R (.ok (.ret .none)) s' → Q .next s') →
      Cx g s L (params.args.map (·.arg) ++ rest) (args.map some ++ List.replicate rest.length none) hid s1 → wpAny (model prog w) A' (execs body env) Q E s1)
    (hco : scope.isCoroutine = false) (hgen : scope.isGenerator = false) (hk : scope.kind = .function) (hcell : ∀ x ∈ scope.names, x.2 ≠ .cell) :
    codeAny (model prog w) A (.call (.ref f) ⟨args, []⟩) R s := by
  refine codeAny_call_def (fd := fnX name qual params body scope cl dV kV doc pm an cdv ct) (body := body) (binds := (params.args.map (·.arg)).zip args) hR.room (hgk _ _ ho) rfl (W.nl.keeps hgk) (hcd.keeps hgk) rfl (BindsTo.of_eq hbind) hcell
    (fun x hx => hloc _ (List.of_mem_zip hx).1) (fun h₁ hns hk₁ => ?_) hco hgen hk
  have hf : ∀ {b o}, s.heap.get? b = some o → b ≠ s.heap.objs.size := fun e => Nat.ne_of_lt (Heap.lt_size e)
  refine h _ s.heap.objs.size _ _ _ _ rfl ⟨fun a b c => ⟨a, b, c⟩, fun a b => ⟨a, b⟩, fun a => a, rfl, rfl, (by show (scope.kind == .module && _) = false; rw [hk]; rfl)⟩ ⟨rfl, rfl, hk, rfl⟩ hR.deeper (fun _ _ r => r) (fun _ r => r) ⟨⟨?_, fun b o e => hk₁ b o (hgk b o e), hgs⟩, (fun p hp => ⟨hk₁ _ _ (hhid p hp).1, hf (hhid p hp).1, (hhid p hp).2⟩), hhn, ⟨rfl, rfl, rfl⟩⟩
  rw [← lk_binds _ _ _ hnd hlen]; exact hns
theorem enterH {w : World} {mg mb : Str → Option Value} {prog : Program} {A : Around} {s : Shared} {R : Result → Shared → Prop} {k : Nat} {g : Heap} (hid : List (Addr × Obj))
    {f : Addr} {oc : Value} {od : Option Addr} {osl : Array (Option Value)} {name qual : Str} {params : Arguments} {body : List Stmt} {scope : Scope} {dV kV doc pm cdv ct : Value} {an : Option Addr} {args : List Value} {rest : List Str}
    (W : Wd w mg mb g) (hgk : ∀ b o, g.get? b = some o → s.heap.get? b = some o) (hgs : g.objs.size ≤ s.heap.objs.size) (hhid : ∀ p ∈ hid, s.heap.get? p.1 = some p.2 ∧ g.get? p.1 = none) (hhn : (hid.map (·.1)).Nodup) (hR : Rm A (k + 1))
    (ho : (KF w).lookup f = some ⟨oc, od, .func (fnOf name qual params body scope dV kV doc pm an cdv ct), osl⟩) (hcd : codeIn (KF w) cdv qual = true)
    (hbind : bindArgs (fnOf name qual params body scope dV kV doc pm an cdv ct) ⟨args, []⟩ = pure ((params.args.map (·.arg)).zip args))
    (hloc : ∀ x ∈ params.args.map (·.arg), scope.names.lookup x = some .local) (hnd : (params.args.map (·.arg)).Nodup) (hlen : args.length = (params.args.map (·.arg)).length)
    (h : ∀ (env : Env) (L : Addr) (A' : Around) (E : Value → Shared → Prop) (Q : Flow → Shared → Prop) (s1 : Shared), env = envX qual scope L f cdv [] → Blk scope env cdv [] → EnvL env L → Rm A' k →
      (∀ v s', R (.ok (.ret v)) s' → Q (.ret v) s') → (∀ s', R (.ok (.ret .none)) s' → Q .next s') →
      Cx g s L (params.args.map (·.arg) ++ rest) (args.map some ++ List.replicate rest.length none) hid s1 → wpAny (model prog w) A' (execs body env) Q E s1)
    (hco : scope.isCoroutine = false) (hgen : scope.isGenerator = false) (hk : scope.kind = .function) (hcell : ∀ x ∈ scope.names, x.2 ≠ .cell) :
    codeAny (model prog w) A (.call (.ref f) ⟨args, []⟩) R s :=
  enterG hid W hgk hgs hhid hhn hR (W.K _ _ ho) (codeRec_of W.K hcd) hbind hloc hnd hlen h hco hgen hk hcell
theorem enter {w : World} {mg mb : Str → Option Value} {prog : Program} {A : Around} {s : Shared} {R : Result → Shared → Prop} {k : Nat}
    {f : Addr} {oc : Value} {od : Option Addr} {osl : Array (Option Value)} {name qual : Str} {params : Arguments} {body : List Stmt} {scope : Scope} {dV kV doc pm cdv ct : Value} {an : Option Addr} {args : List Value} {rest : List Str}
    (W : Wd w mg mb s.heap) (hR : Rm A (k + 1))
    (ho : (KF w).lookup f = some ⟨oc, od, .func (fnOf name qual params body scope dV kV doc pm an cdv ct), osl⟩) (hcd : codeIn (KF w) cdv qual = true)
    (hbind : bindArgs (fnOf name qual params body scope dV kV doc pm an cdv ct) ⟨args, []⟩ = pure ((params.args.map (·.arg)).zip args))
    (hloc : ∀ x ∈ params.args.map (·.arg), scope.names.lookup x = some .local) (hnd : (params.args.map (·.arg)).Nodup) (hlen : args.length = (params.args.map (·.arg)).length)
    (h : ∀ (env : Env) (L : Addr) (A' : Around) (E : Value → Shared → Prop) (Q : Flow → Shared → Prop) (s1 : Shared), env = envX qual scope L f cdv [] → Blk scope env cdv [] → EnvL env L → Rm A' k →
      (∀ v s', R (.ok (.ret v)) s' → Q (.ret v) s') →
      Cx s.heap s L (params.args.map (·.arg) ++ rest) (args.map some ++ List.replicate rest.length none) [] s1 → wpAny (model prog w) A' (execs body env) Q E s1)
    (hco : scope.isCoroutine = false) (hgen : scope.isGenerator = false) (hk : scope.kind = .function) (hcell : ∀ x ∈ scope.names, x.2 ≠ .cell) :
    codeAny (model prog w) A (.call (.ref f) ⟨args, []⟩) R s :=
  enterH [] W (fun _ _ e => e) (Nat.le_refl _) (fun _ hp => nomatch hp) List.nodup_nil hR ho hcd hbind hloc hnd hlen (fun env L A' E Q s1 h1 h2 h3 h4 h5 _ => h env L A' E Q s1 h1 h2 h3 h4 h5) hco hgen hk hcell

section
variable {w : World} {mg mb : Str → Option Value} {M : Model} {prog : Program} {A : Around} {E : Value → Shared → Prop} {g : Heap} {s0 s s' : Shared} {L : Addr} {ns : List Str} {vs : List (Option Value)} {N : List (Addr × Obj)} {env : Env}

/-! a loop that walks -/
theorem Cx.walk {I : Addr} {o o' : Obj} {h' : Heap} {tk : Nat} (C : Cx g s0 L ns vs ((I, o) :: N) s) (hk : ∀ b ob, b ∉ [I] → s.heap.get? b = some ob → h'.get? b = some ob) (ho : h'.get? I = some o') :
    Cx g s0 L ns vs ((I, o') :: N) { s with heap := h', toks := tk } := C.modAt (j := 0) rfl ⟨rfl, rfl, rfl⟩ (fun b ob hb => hk b ob (by simpa using hb)) ho

/-- the walk's own object is let go -/
theorem Cx.away {I : Addr} {o : Obj} {h' : Heap} {tk : Nat} (C : Cx g s0 L ns vs ((I, o) :: N) s) (k2 : ∀ b ob, b ≠ I → s.heap.get? b = some ob → h'.get? b = some ob) : Cx g s0 L ns vs N { s with heap := h', toks := tk } := by
  have hI := C.nw _ (.head _)
  have nd := C.nd
  rw [List.map_cons, List.nodup_cons] at nd
  refine ⟨⟨C.fr.ns.at' fun ob e => k2 _ ob (Ne.symm hI.2.1) e, fun b ob e => k2 b ob (fun q => ?_) (C.fr.keep b ob e), C.fr.above⟩, fun p hp => ?_, nd.2, ⟨C.same.gens, C.same.drawn, C.same.os⟩⟩
  · rw [q, hI.2.2] at e; cases e
  · have hp' := C.nw p (.tail _ hp)
    exact ⟨k2 _ _ (fun q => nd.1 (q ▸ List.mem_map.mpr ⟨p, hp, rfl⟩)) hp'.1, hp'.2⟩
/-- what a turn hands on -/
structure Turn (J : List (Option Value) → List (Addr × Obj) → Prop) (g : Heap) (s0 : Shared) (L : Addr) (ns : List Str) (I : Addr) (o : Obj) (Q T : Flow → Shared → Prop) : Prop where
  nx : ∀ vs N s, J vs N → Cx g s0 L ns vs ((I, o) :: N) s → T .next s
  ct : ∀ vs N s, J vs N → Cx g s0 L ns vs ((I, o) :: N) s → T .cont s
  rt : ∀ v s, Q (.ret v) s → T (.ret v) s
  bk : ∀ s, Q .next s → T .brk s

theorem for_core {I : Addr} {fp : List Addr} {n : Nat} {P : Nat → Value → Prop} {St : Nat → Heap → Prop} {o : Obj} {x : Str} {ix : Nat} {px : Pos} {body : List Stmt} {Q : Flow → Shared → Prop} {F : Value → Shared → Prop}
    (W : Walks prog w A I fp [I] n P St) (hob : ∀ i h, St i h → ∃ o, h.get? I = some o) (J : Nat → List (Option Value) → List (Addr × Obj) → Prop)
    (hfp : ∀ b ∈ fp, b = I ∨ (∃ ob, g.get? b = some ob) ∨ (∃ ob, ∀ i vs N, J i vs N → (b, ob) ∈ N))
    (C : Cx g s0 L ns vs ((I, o) :: N) s) (hE : EnvL env L) (hx : IsLoc env ns x ix) (hst : St 0 s.heap) (h0 : J 0 vs N) (hlen : ∀ i vs N, J i vs N → ix < vs.length)
    (turn : ∀ i v vs N s o E' T, i < n → P i v → J i vs N → Cx g s0 L ns (vs.set ix (some v)) ((I, o) :: N) s → Turn (J (i + 1)) g s0 L ns I o Q T → wpAny (model prog w) A (execs body env) T E' s)
    (done : ∀ vs N s, J n vs N → Cx g s0 L ns vs N s → Q .next s) :
    codeAny (model prog w) A (.forLoop (.Name x px) (.ref I) body [] env) (fun r s' => match r with | .ok f => Q f s' | .error e => F e s') s := by
  refine codeAny_forLoop (fun k s' => ∃ i vs N o, J i vs N ∧ Cx g s0 L ns vs ((I, o) :: N) s' ∧ St i s'.heap ∧ i ≤ n ∧ k = n + 1 - i) ?_ (n + 1) ⟨0, vs, N, o, h0, C, hst, Nat.zero_le _, rfl⟩
  rintro k s' ⟨i, vs, N, o, hJ, C, hst, hi, rfl⟩
  by_cases hlt : i < n
  · refine W.item i _ _ _ hlt hst fun v h₁ tk₁ hP hst₁ hk₁ => ?_
    obtain ⟨o1, ho1⟩ := hob _ _ hst₁
    have C1 := C.walk (tk := tk₁) hk₁ ho1
    refine wpAny_assign_Name (stL C1 hE hx (hlen _ _ _ hJ) fun s2 C2 => ?_)
    have fin0 : ∀ vs' N' s3, J (i + 1) vs' N' → Cx g s0 L ns vs' ((I, o1) :: N') s3 → ∃ m, m < n + 1 - i ∧ ∃ i vs N o, J i vs N ∧ Cx g s0 L ns vs ((I, o) :: N) s3 ∧ St i s3.heap ∧ i ≤ n ∧ m = n + 1 - i := by
      rintro vs' N' s3 hJ' C3
      refine ⟨n + 1 - (i + 1), by omega, i + 1, vs', N', o1, hJ', C3, ?_, hlt, rfl⟩
      refine W.frame _ _ _ hst₁ fun b hb ob e => ?_
      rcases hfp b hb with rfl | ⟨q, hq⟩ | ⟨q, hq⟩
      · rw [ho1] at e; cases e; exact (C3.nw _ (.head _)).1
      · have e1 := C1.fr.keep _ _ hq
        rw [show h₁.get? b = some ob from e] at e1; cases e1
        exact C3.fr.keep _ _ hq
      · have e1 := (C1.nw _ (.tail _ (hq _ _ _ hJ))).1
        rw [show h₁.get? b = some ob from e] at e1; cases e1
        exact (C3.nw _ (.tail _ (hq _ _ _ hJ'))).1
    exact turn i v vs N s2 o1 _ _ hlt hP hJ C2 ⟨fin0, fin0, fun _ _ h => h, fun _ h => h⟩
  · have hin : i = n := by omega
    subst hin
    refine W.done _ _ _ hst fun h₁ tk₁ hk₁ => wpAny_execs_nil ?_
    have k2 : ∀ b ob, b ≠ I → s'.heap.get? b = some ob → h₁.get? b = some ob := fun b ob hb => hk₁ b ob (by simpa using hb)
    exact done vs N _ hJ (C.away k2)

/-- a statement's end: T stands for what follows it -/
structure Then (M : Model) (A : Around) (rest : List Stmt) (env : Env) (Q : Flow → Shared → Prop) (E : Value → Shared → Prop) (T : Flow → Shared → Prop) : Prop where
  nx : ∀ s, wpAny M A (execs rest env) Q E s → T .next s
  ot : ∀ f s, f ≠ .next → Q f s → T f s
theorem execsT {st : Stmt} {rest : List Stmt} {Q : Flow → Shared → Prop} (h : ∀ T, Then M A rest env Q E T → wpAny M A (exec st env) T E s) : wpAny M A (execs (st :: rest) env) Q E s :=
  wpAny_execs_cons (h _ ⟨fun _ h => h, fun f s hf h => by cases f <;> first | exact h | exact absurd rfl hf⟩)
/-- a for statement, its iterable's value at hand -/
theorem forS {target iter : Expr} {body rest : List Stmt} {p : Pos} {Q : Flow → Shared → Prop}
    (h : ∀ (T : Flow → Shared → Prop) (F : Value → Shared → Prop), Then M A rest env Q E T → wpAny M A (eval iter env) (fun x s₁ => wpAny M A (pyIter x) (fun it s₂ =>
      codeAny M A (.forLoop target it body [] env) (fun r s' => match r with | .ok f => T f s' | .error e => F e s') s₂) E s₁) E s)
    (hs : ∀ x, foldedSetIterable iter env x = pure x) : wpAny M A (execs (.For target iter body [] p :: rest) env) Q E s :=
  execsT fun T hT => wpAny_For (h T _ hT) hs

theorem rangeSize_nat (a b c : Int) : ∃ n : Nat, Builtin.Range.rangeSize a b c = n := by
  unfold Builtin.Range.rangeSize
  split
  · split
    · rename_i h1 h2
      exact ⟨((b - a - 1) / c + 1).toNat, by have := Int.ediv_nonneg (a := b - a - 1) (b := c) (by omega) (by omega); omega⟩
    · exact ⟨0, rfl⟩
  · split
    · rename_i h1 h2
      exact ⟨((a - b - 1) / (-c) + 1).toNat, by have := Int.ediv_nonneg (a := a - b - 1) (b := -c) (by omega) (by omega); omega⟩
    · exact ⟨0, rfl⟩

theorem rs_up {a b : Int} : Builtin.Range.rangeSize a b 1 = ((b - a).toNat : Nat) := by
  unfold Builtin.Range.rangeSize
  rw [if_pos (by decide), Int.ediv_one]
  split <;> omega
theorem rs_down {a b : Int} (h : b ≤ a) : Builtin.Range.rangeSize a b (-1) = ((a - b).toNat : Nat) := by
  unfold Builtin.Range.rangeSize
  rw [if_neg (by decide), show (-(-1) : Int) = 1 from rfl, Int.ediv_one]
  split <;> omega
theorem small_up {a b : Int} (h1 : -1000000 ≤ a) (h4 : a ≤ 1000000) (h3 : -1000000 ≤ b) (h2 : b ≤ 1000000) : Builtin.Range.small a b 1 = true := by
  unfold Builtin.Range.small
  rw [rs_up]
  simp only [Builtin.Range.rangeFitsLong, Bool.and_eq_true, Bool.or_eq_true, decide_eq_true_eq, beq_iff_eq]
  refine ⟨⟨⟨⟨⟨?_, ?_⟩, ?_⟩, ?_⟩, ?_⟩, ?_⟩ <;> first | (constructor <;> omega) | omega | skip
  right
  rw [if_pos (by decide)]
  simp only [Bool.and_eq_true, decide_eq_true_eq]
  omega
theorem small_down {a b : Int} (h1 : -1000000 ≤ b) (h2 : a ≤ 1000000) (h3 : b ≤ a) : Builtin.Range.small a b (-1) = true := by
  unfold Builtin.Range.small
  rw [rs_down h3]
  simp only [Builtin.Range.rangeFitsLong, Bool.and_eq_true, Bool.or_eq_true, decide_eq_true_eq, beq_iff_eq]
  refine ⟨⟨⟨⟨⟨?_, ?_⟩, ?_⟩, ?_⟩, ?_⟩, ?_⟩ <;> first | (constructor <;> omega) | omega | skip
  right
  rw [if_neg (by decide)]
  simp only [Bool.and_eq_true, decide_eq_true_eq]
  omega

theorem it_range {r : Addr} {a b c : Int} {t u v : Tok} {x : Str} {ix : Nat} {px : Pos} {body : List Stmt} {Q : Flow → Shared → Prop} {F : Value → Shared → Prop} (hh : A.handled = none) {n : Nat}
    (C : Cx g s0 L ns vs N s) (hE : EnvL env L) (hx : IsLoc env ns x ix) (hr : IsRange s.heap r a b c t u v) (hsm : Builtin.Range.small a b c = true) (hn : Builtin.Range.rangeSize a b c = n)
    (J : Nat → List (Option Value) → List (Addr × Obj) → Prop) (h0 : J 0 vs N) (hlen : ∀ i vs N, J i vs N → ix < vs.length)
    (turn : ∀ (i : Nat) tk vs N s I o E' T, i < n → J i vs N → Cx g s0 L ns (vs.set ix (some (.int (a + i * c) tk))) ((I, o) :: N) s → Turn (J (i + 1)) g s0 L ns I o Q T → wpAny (model prog w) A (execs body env) T E' s)
    (done : ∀ vs N s, J n vs N → Cx g s0 L ns vs N s → Q .next s) :
    wpAny (model prog w) A (pyIter (.ref r)) (fun it s₂ => codeAny (model prog w) A (.forLoop (.Name x px) it body [] env) (fun r s' => match r with | .ok f => Q f s' | .error e => F e s') s₂) E s := by
  refine wpAny_pyIter_range hr hsm ?_
  have W := Walks.range (prog := prog) (w := w) hh s.heap.objs.size a c n
  refine for_core W (fun i h st => ⟨_, st⟩) J (fun b hb => .inl (by simpa using hb)) (C.push _ rfl) hE hx (by rw [hn]; simpa using Heap.get?_push_size _ rfl) h0 hlen ?_ done
  rintro i v vs N s o E' T hi ⟨tk, rfl⟩ hJ C' hT
  exact turn i tk vs N s _ o E' T hi hJ C' hT

theorem it_list {l : Addr} {its : Array Value} {k : Nat} {x : Str} {ix : Nat} {px : Pos} {body : List Stmt} {Q : Flow → Shared → Prop} {F : Value → Shared → Prop} (hh : A.handled = none)
    (C : Cx g s0 L ns vs N s) (hE : EnvL env L) (hx : IsLoc env ns x ix) (hl : s.heap.get? l = some (listOf its k))
    (J : Nat → List (Option Value) → List (Addr × Obj) → Prop) (hst : (∃ ob, g.get? l = some ob) ∨ (∃ ob, ∀ i vs N, J i vs N → (l, ob) ∈ N)) (h0 : J 0 vs N) (hlen : ∀ i vs N, J i vs N → ix < vs.length)
    (turn : ∀ (i : Nat) v vs N s I o E' T, i < its.size → its[i]? = some v → J i vs N → Cx g s0 L ns (vs.set ix (some v)) ((I, o) :: N) s → Turn (J (i + 1)) g s0 L ns I o Q T → wpAny (model prog w) A (execs body env) T E' s)
    (done : ∀ vs N s, J its.size vs N → Cx g s0 L ns vs N s → Q .next s) :
    wpAny (model prog w) A (pyIter (.ref l)) (fun it s₂ => codeAny (model prog w) A (.forLoop (.Name x px) it body [] env) (fun r s' => match r with | .ok f => Q f s' | .error e => F e s') s₂) E s := by
  have hL : s.heap.IsList l its := ⟨_, hl, rfl, _, rfl⟩
  refine wpAny_pyIter_list hL ?_
  have hne : l ≠ s.heap.objs.size := Nat.ne_of_lt (Heap.lt_size hl)
  have W := Walks.list (prog := prog) (w := w) hh s.heap.objs.size l hne its
  refine for_core W (fun i h st => ⟨_, st.1.choose_spec.1⟩) J (fun b hb => ?_) (C.push _ rfl) hE hx ⟨⟨_, Heap.get?_push_size _ rfl, rfl, rfl⟩, hL.push _⟩ h0 hlen (fun i v vs N s o E' T hi hP hJ C' hT => turn i v vs N s _ o E' T hi hP hJ C' hT) done
  rcases List.mem_cons.mp hb with rfl | hb
  · exact .inl rfl
  · rw [List.mem_singleton.mp hb]; exact .inr hst

/-! ranges -/
abbrev rngOf (a b c : Int) (t u v : Tok) : Obj := { cls := .type "range", data := .fields #[.int a t, .int b u, .int c v] }
theorem rng1 {n : Int} {t : Tok} {Q : Value → Shared → Prop} (C : Cx g s0 L ns vs N s) (h : ∀ s' a t u v, Cx g s0 L ns vs ((a, rngOf 0 n 1 t u v) :: N) s' → Q (.ref a) s') :
    wpAny (model prog w) A (call (.type "range") [.int n t]) Q E s := call_range_1 (h _ _ _ _ _ ((C.push _ rfl).toks _))
theorem rng2 {a b : Int} {t u : Tok} {Q : Value → Shared → Prop} (C : Cx g s0 L ns vs N s) (h : ∀ s' r t u v, Cx g s0 L ns vs ((r, rngOf a b 1 t u v) :: N) s' → Q (.ref r) s') :
    wpAny (model prog w) A (call (.type "range") [.int a t, .int b u]) Q E s := call_range_2 (h _ _ _ _ _ ((C.push _ rfl).toks _))
theorem rng3 {a b c : Int} {t u v : Tok} {Q : Value → Shared → Prop} (C : Cx g s0 L ns vs N s) (hc : c ≠ 0) (hs : c.natAbs < 1073741824) (h : ∀ s' r t u v, Cx g s0 L ns vs ((r, rngOf a b c t u v) :: N) s' → Q (.ref r) s') :
    wpAny (model prog w) A (call (.type "range") [.int a t, .int b u, .int c v]) Q E s := call_range_3 hc (h _ _ _ _ _ ((C.push _ rfl).toks _)) (.inl (PyProof.noPylong_small hs))

theorem cut {α : Type} {t : Sem α} {Q Q1 : α → Shared → Prop} (h1 : wpAny M A t Q1 E s) (h2 : ∀ v s', Q1 v s' → Q v s') : wpAny M A t Q E s := wpAny_mono h1 h2 fun _ _ e => e
theorem ints_at {its : Array Value} {ls : List Int} {i : Nat} (hI : IntsAre its.toList ls) (h : i < ls.length) : ∃ t, its[i]? = some (.int (ls.getD i 0) t) := by
  obtain ⟨t, ht⟩ := hI.get i (ls.getD i 0) (by rw [List.getD_eq_getElem?_getD, List.getElem?_eq_getElem h]; rfl)
  exact ⟨t, by simpa using ht⟩

/-! calls by a name -/
theorem callE {x : Str} {p pos : Pos} {args : List Expr} {Q : Value → Shared → Prop}
    (h : wpAny M A (eval (.Name x p) env) (fun f s₁ => wpAny M A (callWith pos f [] (backTo pos (starEach args env)) []) Q E s₁) E s) :
    wpAny M A (eval (.Call (.Name x p) args [] pos) env) Q E s := PyProof.Rows.Call_Name rfl h
theorem spl0 {pos : Pos} {Q : List Value → Shared → Prop} (h : Q [] s) : wpAny M A (spliced (backTo pos (starEach [] env))) Q E s := PySem.Calls.spliced_nil h
theorem splC {pos : Pos} {e : Expr} {rest : List Expr} {Q : List Value → Shared → Prop} (h : wpAny M A (eval e env) (fun v s₁ => wpAny M A (spliced (backTo pos (starEach rest env))) (fun l s₂ => Q (v :: l) s₂) E s₁) E s)
    (he : starEach (e :: rest) env = (false, eval e env) :: starEach rest env) : wpAny M A (spliced (backTo pos (starEach (e :: rest) env))) Q E s := by
  rw [he]; exact PySem.Calls.spliced_cons h
/-- what is called is a built-in class, a built-in function or a def of the text -/
inductive Plain (w : World) : Value → Prop
  | t (n : String) : Plain w (.type n)
  | b (n : String) : Plain w (.builtin n)
  | k (a : Addr) : keepIn (KF w) (.ref a) = true → Plain w (.ref a)
theorem callW {pos : Pos} {f : Value} {e : Expr} {rest : List Expr} {Q : Value → Shared → Prop} (W : Wd w mg mb g) (hf : Plain w f) (he : starEach (e :: rest) env = (false, eval e env) :: starEach rest env) (hp : (backTo pos (starEach rest env)).any (·.1) = false)
    (h : wpAny M A (spliced (backTo pos (starEach (e :: rest) env))) (fun l s₁ => (∃ s0 L ns vs N, Cx g s0 L ns vs N s₁) ∧ wpAny M A (call f l) Q E s₁) E s) :
    wpAny M A (callWith pos f [] (backTo pos (starEach (e :: rest) env)) []) Q E s := by
  have hp' : (backTo pos (starEach (e :: rest) env)).any (·.1) = false := by rw [he]; show (false || (backTo pos (starEach rest env)).any (·.1)) = false; rw [hp]; rfl
  cases hf with
  | t n =>
    refine PyProof.Rows.callWith_type hp' ?_
    rw [he] at h ⊢
    exact PySem.Calls.evalArgs_plain (wpAny_mono h (fun l s hl => hl.2) fun _ _ e => e)
  | b n =>
    refine PySem.Calls.callWith_builtin hp' ?_
    rw [he] at h ⊢
    exact PySem.Calls.evalArgs_plain (wpAny_mono h (fun l s hl => hl.2) fun _ _ e => e)
  | k a hk =>
    exact callWith_K (h₀ := g) W.K hk (wpAny_mono h (fun l s hl => ⟨(let ⟨_, _, _, _, _, C⟩ := hl.1; (C.wd W).K), hl.2⟩) fun _ _ e => e) he hp
end
/-! ## B4 -/
section
variable {w : World} {mg mb : Str → Option Value} {M : Model} {A : Around} {E : Value → Shared → Prop} {s : Shared} {L : Addr} {env : Env} {p : Pos} {Q : Value → Shared → Prop}
theorem nm_range (W : Wd w mg mb s.heap) (hE : EnvL env L) (hx : IsGlb env (Str.ofString "range")) (h : Q (.type "range") s) : wpAny M A (eval (.Name (Str.ofString "range") p) env) Q E s :=
  nmB W hE hx (mg_B W (by kernel_rfl)) (by decide) (by kernel_rfl) h
theorem nm_len (W : Wd w mg mb s.heap) (hE : EnvL env L) (hx : IsGlb env (Str.ofString "len")) (h : Q (.builtin "len") s) : wpAny M A (eval (.Name (Str.ofString "len") p) env) Q E s :=
  nmB W hE hx (mg_B W (by kernel_rfl)) (by decide) (by kernel_rfl) h
theorem nm_list (W : Wd w mg mb s.heap) (hE : EnvL env L) (hx : IsGlb env (Str.ofString "list")) (h : Q (.type "list") s) : wpAny M A (eval (.Name (Str.ofString "list") p) env) Q E s :=
  nmB W hE hx (mg_B W (by kernel_rfl)) (by decide) (by kernel_rfl) h
theorem nm_tuple (W : Wd w mg mb s.heap) (hE : EnvL env L) (hx : IsGlb env (Str.ofString "tuple")) (h : Q (.type "tuple") s) : wpAny M A (eval (.Name (Str.ofString "tuple") p) env) Q E s :=
  nmB W hE hx (mg_B W (by kernel_rfl)) (by decide) (by kernel_rfl) h
theorem nm_sum (W : Wd w mg mb s.heap) (hE : EnvL env L) (hx : IsGlb env (Str.ofString "sum")) (h : Q (.builtin "sum") s) : wpAny M A (eval (.Name (Str.ofString "sum") p) env) Q E s :=
  nmB W hE hx (mg_B W (by kernel_rfl)) (by decide) (by kernel_rfl) h
theorem nm_divmod (W : Wd w mg mb s.heap) (hE : EnvL env L) (hx : IsGlb env (Str.ofString "divmod")) (h : Q (.builtin "divmod") s) : wpAny M A (eval (.Name (Str.ofString "divmod") p) env) Q E s :=
  nmB W hE hx (mg_B W (by kernel_rfl)) (by decide) (by kernel_rfl) h
theorem nm_isinstance (W : Wd w mg mb s.heap) (hE : EnvL env L) (hx : IsGlb env (Str.ofString "isinstance")) (h : Q (.builtin "isinstance") s) : wpAny M A (eval (.Name (Str.ofString "isinstance") p) env) Q E s :=
  nmB W hE hx (mg_B W (by kernel_rfl)) (by decide) (by kernel_rfl) h
theorem nm_reversed (W : Wd w mg mb s.heap) (hE : EnvL env L) (hx : IsGlb env (Str.ofString "reversed")) (h : Q (.type "reversed") s) : wpAny M A (eval (.Name (Str.ofString "reversed") p) env) Q E s :=
  nmB W hE hx (mg_B W (by kernel_rfl)) (by decide) (by kernel_rfl) h
theorem nm_div2n1n (W : Wd w mg mb s.heap) (hE : EnvL env L) (hx : IsGlb env (Str.ofString "_div2n1n")) (h : Q (.ref 28) s) : wpAny M A (eval (.Name (Str.ofString "_div2n1n") p) env) Q E s :=
  nmG W hE hx (mg_K W (by kernel_rfl)) h
theorem nm_int2digits (W : Wd w mg mb s.heap) (hE : EnvL env L) (hx : IsGlb env (Str.ofString "_int2digits")) (h : Q (.ref 42) s) : wpAny M A (eval (.Name (Str.ofString "_int2digits") p) env) Q E s :=
  nmG W hE hx (mg_K W (by kernel_rfl)) h
theorem nm_digits2int (W : Wd w mg mb s.heap) (hE : EnvL env L) (hx : IsGlb env (Str.ofString "_digits2int")) (h : Q (.ref 49) s) : wpAny M A (eval (.Name (Str.ofString "_digits2int") p) env) Q E s :=
  nmG W hE hx (mg_K W (by kernel_rfl)) h
theorem nm_divmod_pos (W : Wd w mg mb s.heap) (hE : EnvL env L) (hx : IsGlb env (Str.ofString "_divmod_pos")) (h : Q (.ref 56) s) : wpAny M A (eval (.Name (Str.ofString "_divmod_pos") p) env) Q E s :=
  nmG W hE hx (mg_K W (by kernel_rfl)) h
theorem nm_int_divmod (W : Wd w mg mb s.heap) (hE : EnvL env L) (hx : IsGlb env (Str.ofString "int_divmod")) (h : Q (.ref 63) s) : wpAny M A (eval (.Name (Str.ofString "int_divmod") p) env) Q E s :=
  nmG W hE hx (mg_K W (by kernel_rfl)) h
theorem nm_TupleComp (W : Wd w mg mb s.heap) (hE : EnvL env L) (hx : IsGlb env (Str.ofString "TupleComp")) (h : Q (.ref 87) s) : wpAny M A (eval (.Name (Str.ofString "TupleComp") p) env) Q E s :=
  nmG W hE hx (mg_K W (by kernel_rfl)) h
theorem nm_add_func_stats (W : Wd w mg mb s.heap) (hE : EnvL env L) (hx : IsGlb env (Str.ofString "add_func_stats")) (h : Q (.ref 98) s) : wpAny M A (eval (.Name (Str.ofString "add_func_stats") p) env) Q E s :=
  nmG W hE hx (mg_K W (by kernel_rfl)) h
theorem nm_add_callers (W : Wd w mg mb s.heap) (hE : EnvL env L) (hx : IsGlb env (Str.ofString "add_callers")) (h : Q (.ref 105) s) : wpAny M A (eval (.Name (Str.ofString "add_callers") p) env) Q E s :=
  nmG W hE hx (mg_K W (by kernel_rfl)) h
theorem nm_count_calls (W : Wd w mg mb s.heap) (hE : EnvL env L) (hx : IsGlb env (Str.ofString "count_calls")) (h : Q (.ref 112) s) : wpAny M A (eval (.Name (Str.ofString "count_calls") p) env) Q E s :=
  nmG W hE hx (mg_K W (by kernel_rfl)) h
theorem nm_Whitespace (W : Wd w mg mb s.heap) (hE : EnvL env L) (hx : IsGlb env (Str.ofString "Whitespace")) (h : Q (.ref 174) s) : wpAny M A (eval (.Name (Str.ofString "Whitespace") p) env) Q E s :=
  nmG W hE hx (mg_K W (by kernel_rfl)) h
theorem nm_law_lead (W : Wd w mg mb s.heap) (hE : EnvL env L) (hx : IsGlb env (Str.ofString "_law_lead")) (h : Q (.ref 183) s) : wpAny M A (eval (.Name (Str.ofString "_law_lead") p) env) Q E s :=
  nmG W hE hx (mg_K W (by kernel_rfl)) h
theorem nm_law_ways (W : Wd w mg mb s.heap) (hE : EnvL env L) (hx : IsGlb env (Str.ofString "_law_ways")) (h : Q (.ref 190) s) : wpAny M A (eval (.Name (Str.ofString "_law_ways") p) env) Q E s :=
  nmG W hE hx (mg_K W (by kernel_rfl)) h
theorem nm_law_place (W : Wd w mg mb s.heap) (hE : EnvL env L) (hx : IsGlb env (Str.ofString "_law_place")) (h : Q (.ref 197) s) : wpAny M A (eval (.Name (Str.ofString "_law_place") p) env) Q E s :=
  nmG W hE hx (mg_K W (by kernel_rfl)) h
theorem nm_DIV_LIMIT (W : Wd w mg mb s.heap) (hE : EnvL env L) (hx : IsGlb env (Str.ofString "_DIV_LIMIT")) (h : Q (.int 4000 196) s) : wpAny M A (eval (.Name (Str.ofString "_DIV_LIMIT") p) env) Q E s :=
  nmG W hE hx (mg_K W (by kernel_rfl)) h
theorem pl_28 : Plain w (.ref 28) := .k _ (by kernel_rfl)
theorem pl_42 : Plain w (.ref 42) := .k _ (by kernel_rfl)
theorem pl_49 : Plain w (.ref 49) := .k _ (by kernel_rfl)
theorem pl_56 : Plain w (.ref 56) := .k _ (by kernel_rfl)
theorem pl_63 : Plain w (.ref 63) := .k _ (by kernel_rfl)
theorem pl_87 : Plain w (.ref 87) := .k _ (by kernel_rfl)
theorem pl_98 : Plain w (.ref 98) := .k _ (by kernel_rfl)
theorem pl_105 : Plain w (.ref 105) := .k _ (by kernel_rfl)
theorem pl_112 : Plain w (.ref 112) := .k _ (by kernel_rfl)
theorem pl_174 : Plain w (.ref 174) := .k _ (by kernel_rfl)
theorem pl_183 : Plain w (.ref 183) := .k _ (by kernel_rfl)
theorem pl_190 : Plain w (.ref 190) := .k _ (by kernel_rfl)
theorem pl_197 : Plain w (.ref 197) := .k _ (by kernel_rfl)
end
/-! ## B5 -/
/-- plain values, less their tokens -/
inductive PV where
  | int (n : Int) | str (x : Str) | bool (b : Bool) | ref (a : Addr)
@[reducible] def PV.val : PV → Tok → Value
  | .int n, t => .int n t
  | .str x, t => .str x t
  | .bool b, _ => .bool b
  | .ref a, _ => .ref a
@[reducible] def vals : List PV → (Nat → Tok) → List Value
  | [], _ => []
  | p :: ps, τ => p.val (τ 0) :: vals ps fun i => τ (i + 1)

abbrev tupOf (l : Array Value) : Obj := { cls := .type "tuple", data := .seq l }

def opI : Operator → Int → Int → Int
  | .Add, a, b => a + b
  | .Sub, a, b => a - b
  | .Mult, a, b => a * b
  | .Mod, a, b => a.fmod b
  | .FloorDiv, a, b => a.fdiv b
  | .Pow, a, b => a ^ b.toNat
  | .RShift, a, b => a.fdiv (2 ^ b.toNat)
  | .LShift, a, b => a * 2 ^ b.toNat
  | .BitAnd, a, b => Builtin.bitAnd a b
  | .BitOr, a, b => Builtin.bitOr a b
  | .BitXor, a, b => Builtin.bitXor a b
  | _, _, _ => 0
def okI : Operator → Int → Int → Prop
  | .Add, _, _ => True
  | .Sub, _, _ => True
  | .Mult, _, b => b.natAbs < 2 ^ 63
  | .Mod, _, b => b ≠ 0
  | .FloorDiv, _, b => b ≠ 0 ∧ b.natAbs < 1073741824
  | .Pow, a, b => 0 ≤ b ∧ b ≤ 1000 ∧ a.natAbs < 2 ^ 63
  | .RShift, _, b => 0 ≤ b
  | .LShift, a, b => 0 ≤ b ∧ b ≤ 1000000 ∧ a.natAbs < 2 ^ 64
  | .BitAnd, _, _ => True
  | .BitOr, _, _ => True
  | .BitXor, _, _ => True
  | _, _, _ => False
def cmpI : CmpOp → Int → Int → Option Bool
  | .Lt, a, b => some (decide (a < b))
  | .LtE, a, b => some (decide (a ≤ b))
  | .Gt, a, b => some (decide (b < a))
  | .GtE, a, b => some (decide (b ≤ a))
  | .Eq, a, b => some (a == b)
  | .NotEq, a, b => some (a != b)
  | _, _, _ => none
def cmpS : CmpOp → Str → Str → Option Bool
  | .Lt, a, b => some (decide (a.cps.toList < b.cps.toList))
  | .Gt, a, b => some (decide (b.cps.toList < a.cps.toList))
  | .Eq, a, b => some (a == b)
  | .NotEq, a, b => some (a != b)
  | _, _, _ => none
def isName : Expr → Bool
  | .Name .. => true
  | _ => false
def noSlice : Expr → Bool
  | .Slice .. => false
  | _ => true
def noMark (op : CmpOp) (r : Expr) : Prop := behindInMarks op r = false

/-- what a state offers to an expression that reads alone: names by Nm, objects by H -/
structure Rd (Nm : Str → Value → Prop) (H : Addr → Obj → Prop) (w : World) (prog : Program) (env : Env) (Inv : Shared → Prop) : Prop where
  T : ∀ s k, Inv s → Inv { s with toks := k }
  N : ∀ x v A E (Q : Value → Shared → Prop) s p, Nm x v → Inv s → Q v s → wpAny (model prog w) A (eval (.Name x p) env) Q E s
  H : ∀ a o s, H a o → Inv s → s.heap.get? a = some o
/-- e reads alone and has the value pv -/
def PE (Nm : Str → Value → Prop) (H : Addr → Obj → Prop) (e : Expr) (pv : PV) : Prop :=
  ∀ (w : World) (prog : Program) (env : Env) (Inv : Shared → Prop), Rd Nm H w prog env Inv → ∀ {A : Around} {E : Value → Shared → Prop} {Q : Value → Shared → Prop} {s : Shared}, Inv s → (∀ s' t, Inv s' → Q (pv.val t) s') → wpAny (model prog w) A (eval e env) Q E s

theorem noSlice_sub {i : Expr} (h : noSlice i = true) (o v : Value) : subscripted i false o v = operate [o, v] (getItem o v) := by
  cases i <;> first | rfl | (simp [noSlice] at h)
theorem starEach_env {e : Expr} {env : Env} (h : starEach [e] default = [(false, eval e default)]) : starEach [e] env = [(false, eval e env)] := by
  cases e <;> first | rfl | (simp only [starEach] at h; cases h)

theorem wpCmpI {w : World} {prog : Program} {A : Around} {E : Value → Shared → Prop} {Q : Value → Shared → Prop} {s : Shared} {op : CmpOp} {a b : Int} {t u : Tok} {c : Bool} (hc : cmpI op a b = some c) (q : Q (.bool c) s) :
    wpAny (model prog w) A (compareOp op (.int a t) (.int b u)) Q E s := by
  cases op with
  | Lt => cases hc; exact PyProof.Rows.lt_int q
  | LtE => cases hc; exact PyProof.Rows.le_int q
  | Gt => cases hc; exact PyProof.Rows.gt_int q
  | GtE => cases hc; exact PyProof.Rows.ge_int q
  | Eq => cases hc; exact PyProof.Rows.eq_int q
  | NotEq => cases hc; exact PyProof.Rows.ne_int q
  | _ => cases hc
theorem wpCmpS {w : World} {prog : Program} {A : Around} {E : Value → Shared → Prop} {Q : Value → Shared → Prop} {s : Shared} {op : CmpOp} {a b : Str} {t u : Tok} {c : Bool} (hc : cmpS op a b = some c) (q : Q (.bool c) s) :
    wpAny (model prog w) A (compareOp op (.str a t) (.str b u)) Q E s := by
  cases op with
  | Lt => cases hc; exact PyProof.Rows.lt_str q
  | Gt => cases hc; exact PySem.P.gt_str q
  | Eq => cases hc; exact PyProof.Rows.eq_str q
  | NotEq => cases hc; exact PyProof.Rows.ne_str q
  | _ => cases hc

section
variable {Nm : Str → Value → Prop} {H : Addr → Obj → Prop}
theorem PE.name {x p t pv} : Nm x (PV.val pv t) → PE Nm H (.Name x p) pv := by
  intro hn
  intro w prog env Inv r
  have hT := r.T
  have hN := r.N
  have hH := r.H
  intro A E Q s hs hQ; exact hN _ _ _ _ _ _ _ hn hs (hQ _ _ hs)
theorem PE.int {n k p} : PE Nm H (.Constant (.int n) k p) (.int n) := by
  intro w prog env Inv r
  have hT := r.T
  have hN := r.N
  have hH := r.H
  intro A E Q s hs hQ; exact wpAny_Constant_int (hQ _ _ (hT _ _ hs))
theorem PE.str {n k p} : PE Nm H (.Constant (.str n) k p) (.str n) := by
  intro w prog env Inv r
  have hT := r.T
  have hN := r.N
  have hH := r.H
  intro A E Q s hs hQ; exact PySem.Calls.Constant_str (hQ _ _ (hT _ _ hs))
theorem PE.bool {n k p} : PE Nm H (.Constant (.bool n) k p) (.bool n) := by
  intro w prog env Inv r
  have hT := r.T
  have hN := r.N
  have hH := r.H
  intro A E Q s hs hQ; exact wpAny_Constant_bool (hQ _ 0 hs)
theorem PE.bin {l op r p a b} : PE Nm H l (.int a) → PE Nm H r (.int b) → okI op a b → PE Nm H (.BinOp l op r p) (.int (opI op a b)) := by
  intro ih1 ih2 hok
  intro w prog env Inv r
  have hT := r.T
  have hN := r.N
  have hH := r.H
  replace ih1 := @ih1 _ _ _ _ r
  replace ih2 := @ih2 _ _ _ _ r
  intro A E Q s hs hQ
  refine wpAny_BinOp (ih1 hs fun s1 t1 h1 => ih2 h1 fun s2 t2 h2 => ?_)
  have q := fun k => hQ { s2 with toks := k } s2.toks (hT _ _ h2)
  cases op with
  | Add => exact PyProof.Rows.add_int (q _)
  | Sub => exact PyProof.Rows.sub_int (q _)
  | Mult => exact PyProof.Rows.mul_int (q _) (mulOk hok)
  | Mod => exact PyProof.Rows.mod_int' hok (q _)
  | FloorDiv => exact PyProof.Rows.floordiv_int hok.1 (q _) (.inl (PyProof.noPylong_small hok.2))
  | Pow =>
    refine PyProof.Rows.pow_int hok.1 ?_ (q _)
    have h3 : Builtin.Int.intBits a ≤ 64 := PySem.intBits_le_64 (by have := hok.2.2; omega) (by have := hok.2.2; omega)
    have h4 := hok.2.1
    have h5 := hok.1
    have h6 : (Builtin.Int.intBits a : Int) ≤ 64 := by omega
    calc (Builtin.Int.intBits a : Int) * b ≤ 64 * b := Int.mul_le_mul_of_nonneg_right h6 h5
      _ ≤ 2 ^ 27 := by omega
  | RShift => exact PyProof.Rows.rshift_int hok (q _)
  | LShift => exact PyProof.Rows.lshift_int_small hok.1 hok.2.1 hok.2.2 (q _)
  | BitAnd => exact PyProof.Rows.and_int (q _)
  | BitOr => exact PyProof.Rows.or_int (q _)
  | BitXor => exact PyProof.Rows.xor_int (q _)
  | _ => exact hok.elim
theorem PE.sadd {l r p a b} : PE Nm H l (.str a) → PE Nm H r (.str b) → a.length + b.length ≤ sizeLine → PE Nm H (.BinOp l .Add r p) (.str (a ++ b)) := by
  intro ih1 ih2 hz
  intro w prog env Inv r
  have hT := r.T
  have hN := r.N
  have hH := r.H
  replace ih1 := @ih1 _ _ _ _ r
  replace ih2 := @ih2 _ _ _ _ r
  intro A E Q s hs hQ
  refine wpAny_BinOp (ih1 hs fun s1 t1 h1 => ih2 h1 fun s2 t2 h2 => ?_)
  exact PyProof.Rows.add_str (fun t' tk => hQ _ _ (hT _ _ h2)) hz
theorem PE.smul {l r p a n} : PE Nm H l (.str a) → PE Nm H r (.int n) → MulOk a n → PE Nm H (.BinOp l .Mult r p) (.str (Txt.mul a n)) := by
  intro ih1 ih2 hm
  intro w prog env Inv r
  have hT := r.T
  have hN := r.N
  have hH := r.H
  replace ih1 := @ih1 _ _ _ _ r
  replace ih2 := @ih2 _ _ _ _ r
  intro A E Q s hs hQ
  refine wpAny_BinOp (ih1 hs fun s1 t1 h1 => ih2 h1 fun s2 t2 h2 => ?_)
  exact SB.mul hm (fun t' tk => hQ _ _ (hT _ _ h2))
theorem PE.bsub {l r p a b} : PE Nm H l (.bool a) → PE Nm H r (.bool b) → PE Nm H (.BinOp l .Sub r p) (.int (b2i a - b2i b)) := by
  intro ih1 ih2
  intro w prog env Inv r
  have hT := r.T
  have hN := r.N
  have hH := r.H
  replace ih1 := @ih1 _ _ _ _ r
  replace ih2 := @ih2 _ _ _ _ r
  intro A E Q s hs hQ
  refine wpAny_BinOp (ih1 hs fun s1 t1 h1 => ih2 h1 fun s2 t2 h2 => ?_)
  exact PyProof.Rows.sub_bool (hQ _ _ (hT _ _ h2))
theorem PE.neg {e p a} : PE Nm H e (.int a) → PE Nm H (.UnaryOp .USub e p) (.int (-a)) := by
  intro ih
  intro w prog env Inv r
  have hT := r.T
  have hN := r.N
  have hH := r.H
  replace ih := @ih _ _ _ _ r
  intro A E Q s hs hQ
  refine wpAny_UnaryOp (ih hs fun s1 t1 h1 => ?_)
  exact PyProof.Rows.neg_int (hQ _ _ (hT _ _ h1))
theorem PE.inv {e p a} : PE Nm H e (.int a) → PE Nm H (.UnaryOp .Invert e p) (.int (Builtin.bitNot a)) := by
  intro ih
  intro w prog env Inv r
  have hT := r.T
  have hN := r.N
  have hH := r.H
  replace ih := @ih _ _ _ _ r
  intro A E Q s hs hQ
  refine wpAny_UnaryOp (ih hs fun s1 t1 h1 => ?_)
  exact PyProof.Rows.invert_int (hQ _ _ (hT _ _ h1))
theorem PE.cmp {l op r p a b c} : PE Nm H l (.int a) → PE Nm H r (.int b) → cmpI op a b = some c → noMark op r → PE Nm H (.Compare l [op] [r] p) (.bool c) := by
  intro ih1 ih2 hc hm
  intro w prog env Inv r
  have hT := r.T
  have hN := r.N
  have hH := r.H
  replace ih1 := @ih1 _ _ _ _ r
  replace ih2 := @ih2 _ _ _ _ r
  intro A E Q s hs hQ
  refine wpAny_Compare1 (ih1 hs fun s1 t1 h1 => ih2 h1 fun s2 t2 h2 => ?_) hm
  exact wpCmpI hc (hQ s2 0 h2)
theorem PE.scmp {l op r p a b c} : PE Nm H l (.str a) → PE Nm H r (.str b) → cmpS op a b = some c → noMark op r → PE Nm H (.Compare l [op] [r] p) (.bool c) := by
  intro ih1 ih2 hc hm
  intro w prog env Inv r
  have hT := r.T
  have hN := r.N
  have hH := r.H
  replace ih1 := @ih1 _ _ _ _ r
  replace ih2 := @ih2 _ _ _ _ r
  intro A E Q s hs hQ
  refine wpAny_Compare1 (ih1 hs fun s1 t1 h1 => ih2 h1 fun s2 t2 h2 => ?_) hm
  exact wpCmpS hc (hQ s2 0 h2)
theorem PE.lenL {e p pos a its k} : Nm (Str.ofString "len") (.builtin "len") → PE Nm H e (.ref a) → H a (listOf its k) → its.size < 2 ^ 63 → starEach [e] default = [(false, eval e default)] →
      PE Nm H (.Call (.Name (Str.ofString "len") p) [e] [] pos) (.int its.size) := by
  intro hn ih hl hz he
  intro w prog env Inv r
  have hT := r.T
  have hN := r.N
  have hH := r.H
  replace ih := @ih _ _ _ _ r
  intro A E Q s hs hQ
  refine callE (hN _ _ _ _ _ _ _ hn hs ?_)
  rw [starEach_env he]
  refine callWith_builtin1 (ih hs fun s1 t1 h1 => ?_)
  exact PyProof.Rows.len_list ⟨_, hH _ _ _ hl h1, rfl, _, rfl⟩ (by omega) (hQ _ _ (hT _ _ h1))
theorem PE.lenT {e p pos a its} : Nm (Str.ofString "len") (.builtin "len") → PE Nm H e (.ref a) → H a (tupOf its) → its.size < 2 ^ 63 → starEach [e] default = [(false, eval e default)] →
      PE Nm H (.Call (.Name (Str.ofString "len") p) [e] [] pos) (.int its.size) := by
  intro hn ih hl hz he
  intro w prog env Inv r
  have hT := r.T
  have hN := r.N
  have hH := r.H
  replace ih := @ih _ _ _ _ r
  intro A E Q s hs hQ
  refine callE (hN _ _ _ _ _ _ _ hn hs ?_)
  rw [starEach_env he]
  refine callWith_builtin1 (ih hs fun s1 t1 h1 => ?_)
  exact PyProof.Rows.len_tuple ⟨_, hH _ _ _ hl h1, rfl, _, rfl⟩ (by omega) (hQ _ _ (hT _ _ h1))
theorem PE.item {x px i p l its k n t pv} : PE Nm H (.Name x px) (.ref l) → H l (listOf its k) → PE Nm H i (.int n) → 0 ≤ n → n < 2 ^ 63 → its[n.toNat]? = some (PV.val pv t) → noSlice i = true → PE Nm H (.Subscript (.Name x px) i p) pv := by
  intro ih1 hl ih2 h0 h1 hv hns
  intro w prog env Inv r
  have hT := r.T
  have hN := r.N
  have hH := r.H
  replace ih1 := @ih1 _ _ _ _ r
  replace ih2 := @ih2 _ _ _ _ r
  intro A E Q s hs hQ
  refine PyProof.Rows.Subscript_ (ih1 hs fun s1 t1 g1 => ih2 g1 fun s2 t2 g2 => ?_)
  exact PyProof.Rows.item_list ⟨_, hH _ _ _ hl g2, rfl, _, rfl⟩ h0 h1 hv (hQ _ _ g2) (noSlice_sub hns _ _) (fun _ => rfl)
theorem PE.titem {x px i p l its n t pv} : PE Nm H (.Name x px) (.ref l) → H l (tupOf its) → PE Nm H i (.int n) → 0 ≤ n → n < 2 ^ 63 → its[n.toNat]? = some (PV.val pv t) → noSlice i = true → PE Nm H (.Subscript (.Name x px) i p) pv := by
  intro ih1 hl ih2 h0 h1 hv hns
  intro w prog env Inv r
  have hT := r.T
  have hN := r.N
  have hH := r.H
  replace ih1 := @ih1 _ _ _ _ r
  replace ih2 := @ih2 _ _ _ _ r
  intro A E Q s hs hQ
  refine PyProof.Rows.Subscript_ (ih1 hs fun s1 t1 g1 => ih2 g1 fun s2 t2 g2 => ?_)
  have hlt : n.toNat < its.toList.length := by
    have := (Array.getElem?_eq_some_iff.mp hv).1
    simpa using this
  refine PyProof.Rows.item_tupleT (l := its.toList) (j := n.toNat) ⟨_, hH _ _ _ hl g2, rfl, 0, by simp⟩ (by omega) h1 ?_ (by simpa using hv) (hQ _ _ g2) (noSlice_sub hns _ _)
  have e1 : (if n < 0 then n + (its.toList.length : Int) else n) = n := if_neg (by omega)
  have e2 : (decide (0 ≤ n) && decide (n < (its.toList.length : Int))) = true := by
    simp only [Bool.and_eq_true, decide_eq_true_eq]; omega
  simp only [seqIndex?, e1, e2, if_true]
theorem PE.ifE {l op r q x y b o p c pv} : PE Nm H l (.int x) → PE Nm H r (.int y) → cmpI op x y = some c → noMark op r → (c = true → PE Nm H b pv) → (c = false → PE Nm H o pv) → PE Nm H (.IfExp (.Compare l [op] [r] q) b o p) pv := by
  intro ihl ihr hc hm ihb iho
  intro w prog env Inv r
  have hT := r.T
  have hN := r.N
  have hH := r.H
  replace ihl := @ihl _ _ _ _ r
  replace ihr := @ihr _ _ _ _ r
  replace ihb := fun q => @ihb q _ _ _ _ r
  replace iho := fun q => @iho q _ _ _ _ r
  intro A E Q s hs hQ
  refine wpAny_IfExp (wpAny_isTrue_Compare1 (ihl hs fun s1 t1 h1 => ihr h1 fun s2 t2 h2 => ?_) hm)
  refine wpCmpI hc (wpAny_truthy_bool ?_)
  split
  · rename_i q; exact ihb q h2 hQ
  · rename_i q; exact iho (by simpa using q) h2 hQ
theorem PE.ok {w : World} {prog : Program} {env : Env} {Inv : Shared → Prop}
    (hT : ∀ s k, Inv s → Inv { s with toks := k })
    (hN : ∀ x v A E (Q : Value → Shared → Prop) s p, Nm x v → Inv s → Q v s → wpAny (model prog w) A (eval (.Name x p) env) Q E s)
    (hH : ∀ a o s, H a o → Inv s → s.heap.get? a = some o) {e : Expr} {pv : PV} (h : PE Nm H e pv) :
    ∀ {A : Around} {E : Value → Shared → Prop} {Q : Value → Shared → Prop} {s : Shared}, Inv s → (∀ s' t, Inv s' → Q (pv.val t) s') → wpAny (model prog w) A (eval e env) Q E s := @h _ _ _ _ ⟨hT, hN, hH⟩
end
/-! ## B6 -/
section
variable {Nm : Str → Value → Prop} {H : Addr → Obj → Prop} {l r e b o : Expr} {p q : Pos} {x y n m : Int} {X Y : Str} {t : Tok} {a : Addr} {nm : Str} {pv : PV}
theorem PE.nI (h : Nm nm (.int n t)) : PE Nm H (.Name nm p) (.int n) := .name (t := t) h
theorem PE.nS (h : Nm nm (.str X t)) : PE Nm H (.Name nm p) (.str X) := .name (t := t) h
theorem PE.nR (h : Nm nm (.ref a)) : PE Nm H (.Name nm p) (.ref a) := .name (t := 0) h
theorem PE.nB {c : Bool} (h : Nm nm (.bool c)) : PE Nm H (.Name nm p) (.bool c) := .name (t := 0) h
theorem PE.add (h : PE Nm H l (.int x)) (h' : PE Nm H r (.int y)) : PE Nm H (.BinOp l .Add r p) (.int (x + y)) := .bin h h' trivial
theorem PE.sub (h : PE Nm H l (.int x)) (h' : PE Nm H r (.int y)) : PE Nm H (.BinOp l .Sub r p) (.int (x - y)) := .bin h h' trivial
theorem PE.mul (h : PE Nm H l (.int x)) (h' : PE Nm H r (.int y)) (k : y.natAbs < 2 ^ 63) : PE Nm H (.BinOp l .Mult r p) (.int (x * y)) := .bin h h' k
theorem PE.mod (h : PE Nm H l (.int x)) (h' : PE Nm H r (.int y)) (k : y ≠ 0) : PE Nm H (.BinOp l .Mod r p) (.int (x.fmod y)) := .bin h h' k
theorem PE.div (h : PE Nm H l (.int x)) (h' : PE Nm H r (.int y)) (k : y ≠ 0) (k' : y.natAbs < 1073741824) : PE Nm H (.BinOp l .FloorDiv r p) (.int (x.fdiv y)) := .bin h h' ⟨k, k'⟩
theorem PE.itI {l : Addr} {its : Array Value} {k : Nat} {px : Pos} (h : PE Nm H (.Name nm px) (.ref l)) (hl : H l (listOf its k)) (hi : PE Nm H e (.int n)) (h0 : 0 ≤ n) (h1 : n < 2 ^ 63) (hv : ∃ t, its[n.toNat]? = some (.int m t)) (hs : noSlice e = true) :
    PE Nm H (.Subscript (.Name nm px) e p) (.int m) := .item (t := hv.choose) h hl hi h0 h1 hv.choose_spec hs
end

def Kn (g : Heap) (N : List (Addr × Obj)) (a : Addr) (o : Obj) : Prop := (a, o) ∈ N ∨ g.get? a = some o
theorem Kn.n {g : Heap} {N : List (Addr × Obj)} {a : Addr} {o : Obj} (h : (a, o) ∈ N) : Kn g N a o := .inl h
theorem Kn.g {g : Heap} {N : List (Addr × Obj)} {a : Addr} {o : Obj} (h : g.get? a = some o) : Kn g N a o := .inr h
structure IsCel (env : Env) (x : Str) (c : Addr) : Prop where
  k : env.kindOf x = some .cell ∨ env.kindOf x = some .free
  l : env.cells.lookup x = some c
  d : (x == ("__debug__" : Str)) = false
  e : (x == ("__classdict__" : Str)) = false
/-- the names of a frame -/
inductive FN (env : Env) (g : Heap) (ns : List Str) (vs : List (Option Value)) (N : List (Addr × Obj)) : Str → Value → Prop
  | loc {x i v} : IsLoc env ns x i → vs[i]? = some (some v) → FN env g ns vs N x v
  | len : IsGlb env (Str.ofString "len") → FN env g ns vs N (Str.ofString "len") (.builtin "len")
  | cel {x c o v} : IsCel env x c → Kn g N c o → o.data = .cell (some v) → FN env g ns vs N x v

section
variable {w : World} {mg mb : Str → Option Value} {prog : Program} {A : Around} {E : Value → Shared → Prop} {g : Heap} {s0 s s' : Shared} {L : Addr} {ns : List Str} {vs : List (Option Value)} {N : List (Addr × Obj)} {env : Env}
theorem Kn.get {a : Addr} {o : Obj} (C : Cx g s0 L ns vs N s) (h : Kn g N a o) : s.heap.get? a = some o := h.elim (fun k => C.get k) fun k => C.fr.keep _ _ k

/-- a frame at a state: its world, its block, its room -/
structure Fm (w : World) (mg mb : Str → Option Value) (g : Heap) (env : Env) (L : Addr) : Prop where
  W : Wd w mg mb g
  E : EnvL env L

theorem evP {e : Expr} {pv : PV} {Q : Value → Shared → Prop} (C : Cx g s0 L ns vs N s) (F : Fm w mg mb g env L) (h : PE (FN env g ns vs N) (Kn g N) e pv) (k : ∀ s' t, Cx g s0 L ns vs N s' → Q (pv.val t) s') :
    wpAny (model prog w) A (eval e env) Q E s := by
  refine PE.ok (Inv := Cx g s0 L ns vs N) (fun s k C => C.toks k) (fun x v A E Q s p hn C hq => ?_) (fun a o s h C => h.get C) h C k
  cases hn with
  | loc hx hv => exact nmL C F.E hx hv hq
  | len hx => exact nm_len (C.wd F.W) F.E hx hq
  | cel hx hk hd =>
    rcases hx.k with k | k
    · exact wpAny_Name (wpAny_loadName_cell F.E.kind k hx.l ⟨_, hk.get C, hd⟩ hq) hx.d
    · exact wpAny_Name (wpAny_loadName_free F.E.kind k hx.l ⟨_, hk.get C, hd⟩ hq hx.e) hx.d
/-- a store to a cell of the frame's own -/
theorem stC {x : Str} {c : Addr} {j : Nat} {o : Obj} {v₀ : Option Value} {v : Value} {Q : Unit → Shared → Prop} (C : Cx g s0 L ns vs N s) (F : Fm w mg mb g env L) (hk : env.kindOf x = some .cell) (hx : IsCel env x c) (hj : N[j]? = some (c, o)) (hd : o.data = .cell v₀)
    (h : ∀ s' o', o'.data = .cell (some v) → Cx g s0 L ns vs (N.set j (c, o')) s' → Q () s') : wpAny (model prog w) A (storeName env x v) Q E s :=
  wpAny_storeName_cell F.E.kind hk hx.l ⟨o, C.get (List.mem_of_getElem? hj), hd⟩ fun h' ⟨o', ho, hd'⟩ hs => h _ o' hd' (C.chg (tk := s.toks) hj hs ho)

theorem evI {e : Expr} {n : Int} {Q : Value → Shared → Prop} (C : Cx g s0 L ns vs N s) (F : Fm w mg mb g env L) (h : PE (FN env g ns vs N) (Kn g N) e (.int n)) (k : ∀ s' t, Cx g s0 L ns vs N s' → Q (.int n t) s') :
    wpAny (model prog w) A (eval e env) Q E s := evP C F h k
theorem evR {e : Expr} {a : Addr} {Q : Value → Shared → Prop} (C : Cx g s0 L ns vs N s) (F : Fm w mg mb g env L) (h : PE (FN env g ns vs N) (Kn g N) e (.ref a)) (k : ∀ s', Cx g s0 L ns vs N s' → Q (.ref a) s') :
    wpAny (model prog w) A (eval e env) Q E s := evP C F h fun s' _ C' => k s' C'
theorem evS {e : Expr} {x : Str} {Q : Value → Shared → Prop} (C : Cx g s0 L ns vs N s) (F : Fm w mg mb g env L) (h : PE (FN env g ns vs N) (Kn g N) e (.str x)) (k : ∀ s' t, Cx g s0 L ns vs N s' → Q (.str x t) s') :
    wpAny (model prog w) A (eval e env) Q E s := evP C F h k

theorem asP {x : Str} {i : Nat} {e : Expr} {px p : Pos} {rest : List Stmt} {pv : PV} {Q : Flow → Shared → Prop} (C : Cx g s0 L ns vs N s) (F : Fm w mg mb g env L) (hx : IsLoc env ns x i) (h : PE (FN env g ns vs N) (Kn g N) e pv) (hi : i < vs.length)
    (k : ∀ s' t, Cx g s0 L ns (vs.set i (some (pv.val t))) N s' → wpAny (model prog w) A (execs rest env) Q E s')
    (hs : swapsWith e (some (.Name x px)) p.line env = pure false) : wpAny (model prog w) A (execs (.Assign [.Name x px] e p :: rest) env) Q E s :=
  wpAny_execs_cons (wpAny_Assign_Name (evP C F h fun s1 t C1 => stL C1 F.E hx hi fun s2 C2 => k s2 t C2) hs)
theorem asI {x : Str} {i : Nat} {e : Expr} {px p : Pos} {rest : List Stmt} {n : Int} {Q : Flow → Shared → Prop} (C : Cx g s0 L ns vs N s) (F : Fm w mg mb g env L) (hx : IsLoc env ns x i) (h : PE (FN env g ns vs N) (Kn g N) e (.int n)) (hi : i < vs.length)
    (k : ∀ s' t, Cx g s0 L ns (vs.set i (some (.int n t))) N s' → wpAny (model prog w) A (execs rest env) Q E s')
    (hs : swapsWith e (some (.Name x px)) p.line env = pure false) : wpAny (model prog w) A (execs (.Assign [.Name x px] e p :: rest) env) Q E s :=
  asP C F hx h hi k hs
theorem asE {x : Str} {i : Nat} {e : Expr} {px p : Pos} {rest : List Stmt} {Q : Flow → Shared → Prop} (_ : Cx g s0 L ns vs N s) (F : Fm w mg mb g env L) (hx : IsLoc env ns x i)
    (k : wpAny (model prog w) A (eval e env) (fun v s' => ∃ vs N, Cx g s0 L ns vs N s' ∧ i < vs.length ∧ ∀ s'', Cx g s0 L ns (vs.set i (some v)) N s'' → wpAny (model prog w) A (execs rest env) Q E s'') E s)
    (hs : swapsWith e (some (.Name x px)) p.line env = pure false) : wpAny (model prog w) A (execs (.Assign [.Name x px] e p :: rest) env) Q E s :=
  wpAny_execs_cons (wpAny_Assign_Name (wpAny_mono k (fun v s' ⟨_, _, C, hi, k⟩ => stL C F.E hx hi k) fun _ _ e => e) hs)
theorem ifP {l r : Expr} {op : CmpOp} {q p : Pos} {a b : Int} {c : Bool} {body orelse rest : List Stmt} {Q : Flow → Shared → Prop} (C : Cx g s0 L ns vs N s) (F : Fm w mg mb g env L)
    (hl : PE (FN env g ns vs N) (Kn g N) l (.int a)) (hr : PE (FN env g ns vs N) (Kn g N) r (.int b)) (hc : cmpI op a b = some c) (hm : noMark op r)
    (k1 : c = true → ∀ s' T, Then (model prog w) A rest env Q E T → Cx g s0 L ns vs N s' → wpAny (model prog w) A (execs body env) T E s')
    (k2 : c = false → ∀ s' T, Then (model prog w) A rest env Q E T → Cx g s0 L ns vs N s' → wpAny (model prog w) A (execs orelse env) T E s') :
    wpAny (model prog w) A (execs (.If (.Compare l [op] [r] q) body orelse p :: rest) env) Q E s :=
  execsT fun T hT => wpAny_If (wpAny_isTrue_Compare1 (evI C F hl fun s1 t1 C1 => evI C1 F hr fun s2 t2 C2 => wpCmpI hc (wpAny_truthy_bool (by
    cases c
    · exact k2 rfl _ T hT C2
    · exact k1 rfl _ T hT C2))) hm)
theorem retP {e : Expr} {p : Pos} {rest : List Stmt} {pv : PV} {Q : Flow → Shared → Prop} (C : Cx g s0 L ns vs N s) (F : Fm w mg mb g env L) (h : PE (FN env g ns vs N) (Kn g N) e pv) (k : ∀ s' t, Cx g s0 L ns vs N s' → Q (.ret (pv.val t)) s') :
    wpAny (model prog w) A (execs (.Return (some e) p :: rest) env) Q E s := wpAny_execs_cons (wpAny_Return_some (evP C F h k))
theorem retR {e : Expr} {p : Pos} {rest : List Stmt} {a : Addr} {Q : Flow → Shared → Prop} (C : Cx g s0 L ns vs N s) (F : Fm w mg mb g env L) (h : PE (FN env g ns vs N) (Kn g N) e (.ref a)) (k : ∀ s', Cx g s0 L ns vs N s' → Q (.ret (.ref a)) s') :
    wpAny (model prog w) A (execs (.Return (some e) p :: rest) env) Q E s := retP C F h fun s' _ C' => k s' C'
/-- a[i] = e, into a list of the frame's own -/
theorem asL {nx : Str} {i e : Expr} {px pp p : Pos} {rest : List Stmt} {pv : PV} {j : Nat} {l : Addr} {its : Array Value} {k : Nat} {n : Int} {Q : Flow → Shared → Prop} (C : Cx g s0 L ns vs N s) (F : Fm w mg mb g env L)
    (he : PE (FN env g ns vs N) (Kn g N) e pv) (hl : PE (FN env g ns vs N) (Kn g N) (.Name nx px) (.ref l)) (hi : PE (FN env g ns vs N) (Kn g N) i (.int n)) (hj : N[j]? = some (l, listOf its k)) (h0 : 0 ≤ n) (h1 : n < its.size) (h2 : n < 2 ^ 63)
    (kk : ∀ s' t, Cx g s0 L ns vs (N.set j (l, listOf (its.setIfInBounds n.toNat (pv.val t)) k)) s' → wpAny (model prog w) A (execs rest env) Q E s') (hs : swapsWith e (some (.Subscript (.Name nx px) i pp)) p.line env = pure false) :
    wpAny (model prog w) A (execs (.Assign [.Subscript (.Name nx px) i pp] e p :: rest) env) Q E s :=
  wpAny_execs_cons (wpAny_Assign_Subscript (evP C F he fun s1 t C1 => evP C1 F hl fun s2 t2 C2 => evP C2 F hi fun s3 t3 C3 =>
    setL C3 hj h0 h1 h2 fun s4 C4 => kk s4 t C4) hs)
theorem nextP {Q : Flow → Shared → Prop} (h : Q .next s) : wpAny (model prog w) A (execs [] env) Q E s := wpAny_execs_nil h

/-- the arguments of a call, plain ones -/
inductive PEs (Nm : Str → Value → Prop) (H : Addr → Obj → Prop) : List Expr → List PV → Prop
  | nil : PEs Nm H [] []
  | cons {e es pv pvs} : PE Nm H e pv → PEs Nm H es pvs → starEach (e :: es) = (fun env => (false, eval e env) :: starEach es env) → PEs Nm H (e :: es) (pv :: pvs)
theorem plain_any {Nm : Str → Value → Prop} {H : Addr → Obj → Prop} {es : List Expr} {pvs : List PV} (h : PEs Nm H es pvs) (p : Pos) (env : Env) : (backTo p (starEach es env)).any (·.1) = false := by
  induction h with
  | nil => rfl
  | cons _ _ he ih => rw [he]; show (false || (backTo p (starEach _ env)).any (·.1)) = false; rw [ih]; rfl
theorem evPs {es : List Expr} {pvs : List PV} {p : Pos} (F : Fm w mg mb g env L) (h : PEs (FN env g ns vs N) (Kn g N) es pvs) :
    ∀ {s} {Q : List Value → Shared → Prop}, Cx g s0 L ns vs N s → (∀ s' τ, Cx g s0 L ns vs N s' → Q (vals pvs τ) s') → wpAny (model prog w) A (spliced (backTo p (starEach es env))) Q E s := by
  induction h with
  | nil => intro s Q C k; exact spl0 (k _ (fun _ => 0) C)
  | cons he _ hs ih => intro s Q C k; exact splC (evP C F he fun s1 t C1 => ih C1 fun s2 τ C2 => k s2 (fun i => match i with | 0 => t | j + 1 => τ j) C2) (by rw [hs])
/-- a call by a name, plain arguments -/
theorem callP {x : Str} {p pos : Pos} {e : Expr} {es : List Expr} {f : Value} {pvs : List PV} {Q : Value → Shared → Prop} (C : Cx g s0 L ns vs N s) (F : Fm w mg mb g env L) (hf : Plain w f)
    (hn : ∀ {A E Q s p}, Wd w mg mb s.heap → Q f s → wpAny (model prog w) A (eval (.Name x p) env) Q E s) (h : PEs (FN env g ns vs N) (Kn g N) (e :: es) pvs)
    (k : ∀ s' τ, Cx g s0 L ns vs N s' → wpAny (model prog w) A (call f (vals pvs τ)) Q E s') :
    wpAny (model prog w) A (eval (.Call (.Name x p) (e :: es) [] pos) env) Q E s := by
  refine callE (hn (C.wd F.W) (callW F.W hf ?_ ?_ (evPs F h C fun s' τ C' => ⟨⟨_, _, _, _, _, C'⟩, k s' τ C'⟩)))
  · cases h with | cons _ _ hs => rw [hs]
  · cases h with | cons _ h _ => exact plain_any h _ _
end
/-! ## B7 -/
inductive PT (Nm : Str → Value → Prop) (H : Addr → Obj → Prop) : Expr → Bool → Prop
  | cmp {l op r p a b c} : PE Nm H l (.int a) → PE Nm H r (.int b) → cmpI op a b = some c → noMark op r → PT Nm H (.Compare l [op] [r] p) c
  | scmp {l op r p a b c} : PE Nm H l (.str a) → PE Nm H r (.str b) → cmpS op a b = some c → noMark op r → PT Nm H (.Compare l [op] [r] p) c
  | or {x y p b c} : PT Nm H x b → (b = false → PT Nm H y c) → PT Nm H (.BoolOp .Or [x, y] p) (b || c)

section
variable {w : World} {mg mb : Str → Option Value} {prog : Program} {A : Around} {E : Value → Shared → Prop} {g : Heap} {s0 s s' : Shared} {L : Addr} {ns : List Str} {vs : List (Option Value)} {N : List (Addr × Obj)} {env : Env}

theorem evT {e : Expr} {c : Bool} (F : Fm w mg mb g env L) (h : PT (FN env g ns vs N) (Kn g N) e c) :
    ∀ {s} {Q : Bool → Shared → Prop}, Cx g s0 L ns vs N s → (∀ s', Cx g s0 L ns vs N s' → Q c s') → wpAny (model prog w) A (isTrue e env (eval e env)) Q E s := by
  induction h with
  | cmp hl hr hc hm => intro s Q C k; exact wpAny_isTrue_Compare1 (evI C F hl fun s1 t1 C1 => evI C1 F hr fun s2 t2 C2 => wpCmpI hc (wpAny_truthy_bool (k _ C2))) hm
  | scmp hl hr hc hm => intro s Q C k; exact wpAny_isTrue_Compare1 (evS C F hl fun s1 t1 C1 => evS C1 F hr fun s2 t2 C2 => wpCmpS hc (wpAny_truthy_bool (k _ C2))) hm
  | @or x y p b c hx hy ihx ihy =>
    intro s Q C k
    refine wpAny_isTrue_BoolOp (wpAny_allTrue_Or_cons (ihx C fun s1 C1 => ?_))
    cases b with
    | true => exact k _ C1
    | false =>
      refine wpAny_allTrue_Or_cons (ihy rfl C1 fun s2 C2 => ?_)
      cases c with
      | true => exact k _ C2
      | false => exact wpAny_allTrue_Or_nil (k _ C2)
theorem ifT {test : Expr} {p : Pos} {c : Bool} {body orelse rest : List Stmt} {Q : Flow → Shared → Prop} (C : Cx g s0 L ns vs N s) (F : Fm w mg mb g env L) (h : PT (FN env g ns vs N) (Kn g N) test c)
    (k1 : c = true → ∀ s' T, Then (model prog w) A rest env Q E T → Cx g s0 L ns vs N s' → wpAny (model prog w) A (execs body env) T E s')
    (k2 : c = false → ∀ s' T, Then (model prog w) A rest env Q E T → Cx g s0 L ns vs N s' → wpAny (model prog w) A (execs orelse env) T E s') :
    wpAny (model prog w) A (execs (.If test body orelse p :: rest) env) Q E s :=
  execsT fun T hT => wpAny_If (evT F h C fun s2 C2 => by
    cases c
    · exact k2 rfl _ T hT C2
    · exact k1 rfl _ T hT C2)

theorem it_str {z : Str} {t : Tok} {x : Str} {ix : Nat} {px : Pos} {body : List Stmt} {Q : Flow → Shared → Prop} {F : Value → Shared → Prop} (hh : A.handled = none)
    (C : Cx g s0 L ns vs N s) (hE : EnvL env L) (hx : IsLoc env ns x ix) (ha : z.cps.all (· < 128) = true)
    (J : Nat → List (Option Value) → List (Addr × Obj) → Prop) (h0 : J 0 vs N) (hlen : ∀ i vs N, J i vs N → ix < vs.length)
    (turn : ∀ (i : Nat) c tk vs N s I o E' T, z.cps[i]? = some c → J i vs N → Cx g s0 L ns (vs.set ix (some (.str ⟨#[c]⟩ tk))) ((I, o) :: N) s → Turn (J (i + 1)) g s0 L ns I o Q T → wpAny (model prog w) A (execs body env) T E' s)
    (done : ∀ vs N s, J z.cps.size vs N → Cx g s0 L ns vs N s → Q .next s) :
    wpAny (model prog w) A (pyIter (.str z t)) (fun it s₂ => codeAny (model prog w) A (.forLoop (.Name x px) it body [] env) (fun r s' => match r with | .ok f => Q f s' | .error e => F e s') s₂) E s := by
  refine wpAny_pyIter_ascii ha ?_
  refine for_core (Walks.strAscii (prog := prog) (w := w) hh s.heap.objs.size z t) (fun i h st => ⟨_, st.choose_spec.1⟩) J (fun b hb => .inl (by simpa using hb)) (C.push _ rfl) hE hx ⟨_, Heap.get?_push_size _ rfl, rfl, rfl⟩ h0 hlen ?_ done
  rintro i v vs N s o E' T hi ⟨c, u, hc, rfl⟩ hJ C' hT
  exact turn i c u vs N s _ o E' T hc hJ C' hT

/-- a tuple display of plain parts, returned -/
theorem retT {es : List Expr} {k : Nat} {tp p : Pos} {rest : List Stmt} {pvs : List PV} {Q : Flow → Shared → Prop} (C : Cx g s0 L ns vs N s) (F : Fm w mg mb g env L) (h : PEs (FN env g ns vs N) (Kn g N) es pvs) (hz : ∀ τ, (vals pvs τ).length ≤ sizeLine)
    (kk : ∀ s' a τ, Cx g s0 L ns vs ((a, tupOf (vals pvs τ).toArray) :: N) s' → Q (.ret (.ref a)) s') :
    wpAny (model prog w) A (execs (.Return (some (.Tuple es k tp)) p :: rest) env) Q E s :=
  wpAny_execs_cons (wpAny_Return_some (PyProof.Rows.Tuple_ (evPs F h C fun s' τ C' => newT C' (hz τ) fun s'' a C'' => kk s'' a τ C'')))
end
/-! ## B8 -/
/-- the entry of a def with cells of its own -/
theorem enterC {w : World} {mg mb : Str → Option Value} {prog : Program} {A : Around} {s : Shared} {R : Result → Shared → Prop} {k : Nat} {g : Heap} (hid : List (Addr × Obj))
    {f : Addr} {oc : Value} {od : Option Addr} {osl : Array (Option Value)} {name : Str} {params : Arguments} {body : List Stmt} {scope : Scope} {doc pm cdv : Value} {args : List Value} {binds : List (Str × Value)} {ns : List Str} {vs : List (Option Value)}
    (W : Wd w mg mb g) (hgk : ∀ b o, g.get? b = some o → s.heap.get? b = some o) (hgs : g.objs.size ≤ s.heap.objs.size) (hhid : ∀ p ∈ hid, s.heap.get? p.1 = some p.2 ∧ g.get? p.1 = none) (hhn : (hid.map (·.1)).Nodup) (hR : Rm A (k + 1))
    (ho : (KF w).lookup f = some ⟨oc, od, .func (docDef name params body scope pm cdv doc), osl⟩) (hcd : codeIn (KF w) cdv name = true)
    (hbind : bindArgs (docDef name params body scope pm cdv doc) ⟨args, []⟩ = pure binds)
    (hkind : (binds.all fun y => scope.names.lookup y.1 == some .local || scope.names.lookup y.1 == some .cell) = true)
    (hnd : ((cellsFrom 0 scope.names []).map (·.1)).Nodup)
    (hl : bindL (fun x => scope.names.lookup x) binds (fun _ => none) = lk ns vs)
    (h : ∀ (env : Env) (L : Addr) (A' : Around) (E : Value → Shared → Prop) (Q : Flow → Shared → Prop) (s1 : Shared) (cells : List (Addr × Obj)), env = envX name scope L f cdv (cellsFrom (L + 1) scope.names []) → Blk scope env cdv (cellsFrom (L + 1) scope.names []) → EnvL env L → Rm A' k →
      (∀ v s', R (.ok (.ret v)) s' → Q (.ret v) s') → CellsAre (bindC (fun x => scope.names.lookup x) binds fun _ => none) (cellsFrom (L + 1) scope.names []) cells →
      Cx g s L ns vs (cells ++ hid) s1 → wpAny (model prog w) A' (execs body env) Q E s1)
    (hcn : ∀ n, ((cellsFrom n scope.names []).map (·.2)).Nodup)
    (hco : scope.isCoroutine = false) (hgen : scope.isGenerator = false) (hk : scope.kind = .function) :
    codeAny (model prog w) A (.call (.ref f) ⟨args, []⟩) R s := by
  refine call_cellsN hR.room (hgk _ _ (W.K _ _ ho)) rfl (W.nl.keeps hgk) ((codeRec_of W.K hcd).keeps hgk) hbind (kindsX hkind _) hnd (fun h₁ tk cells F N X => ?_) hco hgen hk
  have nd : (cells.map (·.1)).Nodup := by
    have e : ∀ {cm : Str → Option Value} {cs : List (Str × Addr)} {cl : List (Addr × Obj)}, CellsAre cm cs cl → cl.map (·.1) = cs.map (·.2) := by
      intro cm cs cl x
      induction x with
      | nil => rfl
      | cons _ _ ih => simp [ih]
    rw [e X]; exact hcn _
  have gn : ∀ b, s.heap.get? b = none → g.get? b = none := fun b e => by
    cases q : g.get? b with
    | none => rfl
    | some o => rw [hgk _ _ q] at e; cases e
  refine h _ s.heap.objs.size _ _ _ { s with heap := h₁, toks := tk } cells rfl ⟨fun a b c => ⟨a, b, c⟩, fun a b => ⟨a, b⟩, fun a => a, rfl, rfl, (by show (scope.kind == .module && _) = false; rw [hk]; rfl)⟩ ⟨rfl, rfl, hk, rfl⟩ hR.deeper (fun _ _ r => r) X ⟨?_, fun p hp => ?_, ?_, ⟨rfl, rfl, rfl⟩⟩
  · rw [← hl]; exact ⟨F.ns, fun b o e => F.keep b o (hgk b o e), hgs⟩
  · rcases List.mem_append.mp hp with hp | hp
    · exact ⟨(N p hp).1, (N p hp).2.1, gn _ (N p hp).2.2⟩
    · exact ⟨F.keep _ _ (hhid p hp).1, Nat.ne_of_lt (Heap.lt_size (hhid p hp).1), (hhid p hp).2⟩
  · rw [List.map_append, List.nodup_append]
    refine ⟨nd, hhn, fun a ha b hb e => ?_⟩
    obtain ⟨p, hp, rfl⟩ := List.mem_map.mp ha
    obtain ⟨q, hq, rfl⟩ := List.mem_map.mp hb
    have := (N p hp).2.2
    rw [e, (hhid q hq).1] at this; cases this

/-! comprehensions: their block's names -/
theorem relabel_loc {scope : Scope} {env : Env} {x : Str} (h : scope.names.lookup x = some .local) : (relabel scope env).names.lookup x = some .local := lookup_relabel_local h
theorem relabel_glb {env : Env} : ∀ {names : List (Str × NameKind)} {x : Str}, names.lookup x = some .globalImplicit →
    (names.map fun (n, k) => if (k == NameKind.free && env.scope.kind == .function && env.kindOf n == some .cell) then (n, NameKind.cell) else (n, k)).lookup x = some .globalImplicit
  | [], _, h => by simp at h
  | (n, k) :: r, x, h => by
    have ih := @relabel_glb env r x
    show List.lookup x ((if (k == NameKind.free && env.scope.kind == .function && env.kindOf n == some .cell) = true then (n, NameKind.cell) else (n, k)) :: _) = _
    cases hx : x == n with
    | true =>
      simp only [List.lookup_cons, hx] at h
      cases h
      simp [List.lookup_cons, hx]
    | false =>
      simp only [List.lookup_cons, hx] at h
      split <;> (simp only [List.lookup_cons, hx]; exact ih h)
theorem relabel_cel {env : Env} (hk : env.scope.kind = .function) : ∀ {names : List (Str × NameKind)} {x : Str}, names.lookup x = some .free → env.kindOf x = some .cell →
    (names.map fun (n, k) => if (k == NameKind.free && env.scope.kind == .function && env.kindOf n == some .cell) then (n, NameKind.cell) else (n, k)).lookup x = some .cell
  | [], _, h, _ => by simp at h
  | (n, k) :: r, x, h, hc => by
    have ih := @relabel_cel env hk r x
    show List.lookup x ((if (k == NameKind.free && env.scope.kind == .function && env.kindOf n == some .cell) = true then (n, NameKind.cell) else (n, k)) :: _) = _
    cases hx : x == n with
    | true =>
      simp only [List.lookup_cons, hx] at h
      cases h
      have e : x = n := by simpa using hx
      subst e
      simp [hk, hc]
    | false =>
      simp only [List.lookup_cons, hx] at h
      split <;> (simp only [List.lookup_cons, hx]; exact ih h hc)

/-- the cells that a block takes from the block around -/
def clOf (f : Str → Addr) (names : List (Str × NameKind)) : List (Str × Addr) := names.foldl (fun cs p => if p.2 == .free then (p.1, f p.1) :: cs else cs) []
theorem closure_of {scope : Scope} {env : Env} (h : (scope.names.all fun p => !(p.2 == .free) || (env.cells.lookup p.1).isSome) = true) : closureFor scope env = pure (clOf (fun x => (env.cells.lookup x).getD 0) scope.names) := by
  have key : ∀ (names : List (Str × NameKind)) (cs : List (Str × Addr)), (names.all fun p => !(p.2 == .free) || (env.cells.lookup p.1).isSome) = true →
      (forIn names cs fun (p : Str × NameKind) (r : List (Str × Addr)) => (if p.2 == .free then do let a ← cellOf env p.1; pure (ForInStep.yield ((p.1, a) :: r)) else pure (ForInStep.yield r) : Sem _)) =
        pure (names.foldl (fun cs p => if p.2 == .free then (p.1, (env.cells.lookup p.1).getD 0) :: cs else cs) cs) := by
    intro names
    induction names with
    | nil => intro cs _; rfl
    | cons p r ih =>
      intro cs hall
      rw [List.all_cons, Bool.and_eq_true] at hall
      rw [List.forIn_cons, List.foldl_cons]
      by_cases hf : (p.2 == .free) = true
      · rw [if_pos hf, if_pos hf]
        have h1 := hall.1
        rw [hf] at h1
        obtain ⟨a, ha⟩ := Option.isSome_iff_exists.mp (show (env.cells.lookup p.1).isSome = true by simpa using h1)
        have e : cellOf env p.1 = pure a := by unfold cellOf; rw [ha]
        rw [e, pure_bind, pure_bind, ha]
        exact ih _ hall.2
      · rw [if_neg hf, if_neg hf, pure_bind]
        exact ih _ hall.2
  have e := key scope.names [] h
  unfold closureFor clOf
  show (forIn scope.names ([] : List (Str × Addr)) (fun (p : Str × NameKind) (r : List (Str × Addr)) => (if p.2 == .free then do let a ← cellOf env p.1; pure (ForInStep.yield ((p.1, a) :: r)) else pure (ForInStep.yield r) : Sem _)) >>= fun cs => pure cs) = _
  rw [e]
  rfl
theorem clOf_lookup (f : Str → Addr) {names : List (Str × NameKind)} {x : Str} (h : names.lookup x = some .free) : (clOf f names).lookup x = some (f x) := by
  have key : ∀ (names : List (Str × NameKind)) (cs : List (Str × Addr)), (names.any fun p => p.1 == x && p.2 == .free) = true ∨ cs.lookup x = some (f x) →
      (names.foldl (fun cs p => if p.2 == .free then (p.1, f p.1) :: cs else cs) cs).lookup x = some (f x) := by
    intro names
    induction names with
    | nil => intro cs h; rcases h with h | h; (simp at h); exact h
    | cons p r ih =>
      intro cs h
      rw [List.foldl_cons]
      refine ih _ ?_
      rcases h with h | h
      · rw [List.any_cons, Bool.or_eq_true] at h
        rcases h with h | h
        · right
          rw [Bool.and_eq_true] at h
          rw [if_pos h.2]
          have e : p.1 = x := by simpa using h.1
          rw [e]; simp
        · exact .inl h
      · right
        split
        · rw [List.lookup_cons]
          cases hx : x == p.1 with
          | true => have e : x = p.1 := by simpa using hx
                    rw [e]
          | false => exact h
        · exact h
  refine key names [] (.inl ?_)
  clear key
  induction names with
  | nil => simp at h
  | cons p r ih =>
    rw [List.lookup_cons] at h
    rw [List.any_cons]
    cases hx : x == p.1 with
    | true =>
      rw [hx] at h
      cases h2 : p.2 <;> rw [h2] at h <;> first | (cases h; done) | skip
      have e : x = p.1 := by simpa using hx
      simp [e]
    | false => rw [hx] at h; rw [ih h, Bool.or_true]

/-- the block of a comprehension within env -/
abbrev blk (scope : Scope) (env : Env) (Cc : Addr) : Env := compEnvC scope (clOf (fun x => (env.cells.lookup x).getD 0) scope.names) Cc env
theorem blk_env {scope : Scope} {env : Env} {Cc L : Addr} (hE : EnvL env L) (hk : scope.kind = .function) : EnvL (blk scope env Cc) Cc := ⟨rfl, hE.glo, hk, hE.bui⟩
structure Bl (scope : Scope) (env cenv : Env) : Prop where
  loc : ∀ {ns : List Str} {x : Str} {i : Nat}, scope.names.lookup x = some .local → pos ns x = some i → (x == ("__debug__" : Str)) = false → IsLoc cenv ns x i
  glb : ∀ {x : Str}, scope.names.lookup x = some .globalImplicit → (x == ("__debug__" : Str)) = false → IsGlb cenv x
  cel : ∀ {x : Str} {c : Addr}, scope.names.lookup x = some .free → IsCel env x c → env.kindOf x = some .cell → IsCel cenv x c
theorem blk_bl {scope : Scope} {env : Env} {Cc L : Addr} (hE : EnvL env L) : Bl scope env (blk scope env Cc) where
  loc := fun h hp hd => ⟨relabel_loc h, hp, hd⟩
  glb := fun h hd => ⟨relabel_glb h, hd⟩
  cel := fun {x c} h hc hk => ⟨.inl (relabel_cel hE.kind h hk), by rw [show (blk scope env Cc).cells.lookup x = some ((env.cells.lookup x).getD 0) from clOf_lookup (fun x => (env.cells.lookup x).getD 0) h, hc.l]; rfl, hc.d, hc.e⟩
/-! ## B9 -/
/-- what is iterated, and how its items are bound -/
structure Feed (prog : Program) (w : World) (A : Around) (target : Expr) (cenv : Env) (I : Addr) (g : Heap) (s0 : Shared) (Cc : Addr) (ns : List Str) (n : Nat) (B : Nat → List (Option Value) → Prop) (It : Nat → Obj → Prop) : Prop where
  step : ∀ i vs N s o E' (T : Shared → Prop), i < n → It i o → vs.length = ns.length → Cx g s0 Cc ns vs ((I, o) :: N) s →
    (∀ s' vs' o', B i vs' → vs'.length = ns.length → It (i + 1) o' → Cx g s0 Cc ns vs' ((I, o') :: N) s' → T s') →
    wpAny (model prog w) A (pyNext (.ref I)) (fun r s₁ => match r with
      | none => False
      | some v => wpAny (model prog w) A (letOwnedTupleGo target (.ref I) v) (fun _ s1 => wpAny (model prog w) A (assign target cenv v) (fun _ s₂ => T s₂) E' s1) E' s₁) E' s
  stop : ∀ vs N s o E' (T : Option Value → Shared → Prop), It n o → Cx g s0 Cc ns vs ((I, o) :: N) s → (∀ s', Cx g s0 Cc ns vs N s' → T none s') → wpAny (model prog w) A (pyNext (.ref I)) T E' s
  self : ∀ o s E' (Q : Value → Shared → Prop), It 0 o → s.heap.get? I = some o → Q (.ref I) s → wpAny (model prog w) A (pyIter (.ref I)) Q E' s

def tests (ifs : List Expr) (env : Env) : Sem Bool := forIn ifs true fun c r => if r = true then do let ok ← isTrue c env (eval c env); pure (ForInStep.yield ok) else pure (ForInStep.yield r)

section
variable {prog : Program} {w : World} {A : Around} {E : Value → Shared → Prop} {R : Result → Shared → Prop} {s : Shared}

theorem loopL {elt target iter : Expr} {ifs : List Expr} {scope : Scope} {pos : Pos} {it acc : Value} {env : Env} (I : Nat → Shared → Prop)
    (turn : ∀ n s E', I n s → wpAny (model prog w) A (pyNext it) (fun r s₁ => match r with
      | none => R (.ok .next) s₁
      | some v => wpAny (model prog w) A (letOwnedTupleGo target it v) (fun _ s1 => wpAny (model prog w) A (assign target env v) (fun _ s₂ =>
          wpAny (model prog w) A (tests ifs env) (fun ok s₃ =>
            if ok = true then wpAny (model prog w) A (eval elt env) (fun x s₄ => wpAny (model prog w) A (call (.builtin "list.append") [acc, x]) (fun _ s₅ => ∃ m, m < n ∧ I m s₅) E' s₄) E' s₃
            else ∃ m, m < n ∧ I m s₃) E' s₂) E' s1) E' s₁) E' s)
    (n : Nat) (h : I n s) : codeAny (model prog w) A (.compLoop (.ListComp elt [⟨target, iter, ifs, 0⟩] scope pos) 0 it acc env) R s := by
  refine codeAny_loop rfl I (fun n s hI => ?_) n h
  show wpAny _ A ((compTurn (.ListComp elt [⟨target, iter, ifs, 0⟩] scope pos) 0 it acc env).onRaise (fun x => do noteFrame x env; theTreesLotGoes x)) _ _ s
  refine wpAny_noted ?_
  rw [compTurn_list]
  refine wpAny_bind (wpAny_standAt (wpAny_bind (wpAny_mono (turn n s _ hI) (fun r s₁ h₁ => ?_) fun _ _ h' => h')))
  cases r with
  | none => exact wpAny_pure h₁
  | some v =>
    refine wpAny_bind (wpAny_mono h₁ (fun _ s1 h1 => wpAny_bind (wpAny_mono h1 (fun _ s₂ h₂ => wpAny_bind (wpAny_mono h₂ (fun ok s₃ h₃ => ?_) fun _ _ h' => h')) fun _ _ h' => h')) fun _ _ h' => h')
    cases ok with
    | false => exact wpAny_pure ⟨rfl, h₃⟩
    | true =>
      exact wpAny_bind (wpAny_bind (wpAny_mono h₃ (fun x s₄ h₄ => wpAny_bind (wpAny_mono h₄ (fun _ s₅ h₅ => wpAny_pure (wpAny_pure ⟨rfl, h₅⟩)) fun _ _ h' => h')) fun _ _ h' => h'))

theorem loopD {kx vx target iter : Expr} {ifs : List Expr} {scope : Scope} {pos : Pos} {it : Value} {D : Addr} {env : Env} (I : Nat → Shared → Prop)
    (turn : ∀ n s E', I n s → wpAny (model prog w) A (pyNext it) (fun r s₁ => match r with
      | none => R (.ok .next) s₁
      | some v => wpAny (model prog w) A (letOwnedTupleGo target it v) (fun _ s1 => wpAny (model prog w) A (assign target env v) (fun _ s₂ =>
          wpAny (model prog w) A (tests ifs env) (fun ok s₃ =>
            if ok = true then wpAny (model prog w) A (eval kx env) (fun kv s₄ => wpAny (model prog w) A (eval vx env) (fun vv s₅ =>
              wpAny (model prog w) A (dictSet D kv vv) (fun _ s₆ => ∃ m, m < n ∧ I m s₆) E' s₅) E' s₄) E' s₃
            else ∃ m, m < n ∧ I m s₃) E' s₂) E' s1) E' s₁) E' s)
    (n : Nat) (h : I n s) : codeAny (model prog w) A (.compLoop (.DictComp kx vx [⟨target, iter, ifs, 0⟩] scope pos) 0 it (.ref D) env) R s := by
  refine codeAny_loop rfl I (fun n s hI => ?_) n h
  show wpAny _ A ((compTurn (.DictComp kx vx [⟨target, iter, ifs, 0⟩] scope pos) 0 it (.ref D) env).onRaise (fun x => do noteFrame x env; theTreesLotGoes x)) _ _ s
  refine wpAny_noted ?_
  rw [compTurn_dict]
  refine wpAny_bind (wpAny_standAt (wpAny_bind (wpAny_mono (turn n s _ hI) (fun r s₁ h₁ => ?_) fun _ _ h' => h')))
  cases r with
  | none => exact wpAny_pure h₁
  | some v =>
    refine wpAny_bind (wpAny_mono h₁ (fun _ s1 h1 => wpAny_bind (wpAny_mono h1 (fun _ s₂ h₂ => wpAny_bind (wpAny_mono h₂ (fun ok s₃ h₃ => ?_) fun _ _ h' => h')) fun _ _ h' => h')) fun _ _ h' => h')
    cases ok with
    | false => exact wpAny_pure ⟨rfl, h₃⟩
    | true =>
      exact wpAny_bind (wpAny_bind (wpAny_mono h₃ (fun kv s₄ h₄ => wpAny_bind (wpAny_holding (wpAny_mono h₄ (fun vv s₅ h₅ => wpAny_bind (wpAny_standAt (wpAny_holding (wpAny_mono h₅ (fun _ s₆ h₆ => wpAny_pure ⟨rfl, h₆⟩) fun _ _ h' => h')))) fun _ _ h' => h'))) fun _ _ h' => h'))
end

/-- the ground of a block: what the frame around knows -/
structure Grd (g g' : Heap) (N : List (Addr × Obj)) : Prop where
  k : ∀ b o, g.get? b = some o → g'.get? b = some o
  n : ∀ a o, (a, o) ∈ N → g'.get? a = some o

section
variable {w : World} {mg mb : Str → Option Value} {prog : Program} {A : Around} {E : Value → Shared → Prop} {g : Heap} {s0 s s' : Shared} {L : Addr} {ns : List Str} {vs : List (Option Value)} {N : List (Addr × Obj)} {env : Env}

theorem Cx.grd {I : Addr} {o : Obj} (C : Cx g s0 L ns vs ((I, o) :: N) s) : Grd g (hideAll s.heap [I]) N := by
  have hI := C.nw _ (.head _)
  have nd := C.nd
  rw [List.map_cons, List.nodup_cons] at nd
  refine ⟨fun b ob e => hideAll_get _ (C.fr.keep _ _ e) fun q => ?_, fun a ob h => hideAll_get _ (C.nw _ (.tail _ h)).1 fun q => ?_⟩
  · rw [List.mem_singleton.mp q, hI.2.2] at e; cases e
  · exact nd.1 (List.mem_singleton.mp q ▸ List.mem_map.mpr ⟨_, h, rfl⟩)

/-- back in the frame around -/
theorem Cx.back {I : Addr} {o : Obj} {s1 s2 : Shared} {Cc : Addr} {nsC : List Str} {vsC : List (Option Value)} {M : List (Addr × Obj)} {h' : Heap} (C : Cx g s0 L ns vs ((I, o) :: N) s1) (D : Cx (hideAll s1.heap [I]) s1 Cc nsC vsC M s2)
    (hM : ∀ p ∈ M, s1.heap.get? p.1 = none) (hC : s1.heap.get? Cc = none) (hs : Heap.SameBut Cc s2.heap h') : Cx g s0 L ns vs (M ++ N) { s2 with heap := h' } := by
  have hI := C.nw _ (.head _)
  have nd := C.nd
  rw [List.map_cons, List.nodup_cons] at nd
  have k : ∀ b ob, b ≠ I → s1.heap.get? b = some ob → h'.get? b = some ob := fun b ob hb e =>
    (hs.2 b (fun q => by rw [q, hC] at e; cases e)).trans (D.fr.keep _ _ (hideAll_get _ e (by simpa using hb)))
  refine ⟨⟨C.fr.ns.at' fun ob e => k _ ob (Ne.symm hI.2.1) e, fun b ob e => k b ob (fun q => ?_) (C.fr.keep b ob e), C.fr.above⟩, fun p hp => ?_, ?_, ⟨D.same.gens.trans C.same.gens, D.same.drawn.trans C.same.drawn, D.same.os.trans C.same.os⟩⟩
  · rw [q, hI.2.2] at e; cases e
  · rcases List.mem_append.mp hp with hp | hp
    · obtain ⟨h1, h2, h3⟩ := C.ne (hM p hp)
      exact ⟨(hs.2 _ (D.nw p hp).2.1).trans (D.nw p hp).1, h1, h2⟩
    · have hp' := C.nw p (.tail _ hp)
      exact ⟨k _ _ (fun q => nd.1 (q ▸ List.mem_map.mpr ⟨p, hp, rfl⟩)) hp'.1, hp'.2⟩
  · rw [List.map_append, List.nodup_append]
    refine ⟨D.nd, nd.2, ?_⟩
    intro a ha b hb e
    obtain ⟨p, hp, rfl⟩ := List.mem_map.mp ha
    have := (C.ne (hM p hp)).2.2
    rw [List.map_cons, List.mem_cons, not_or] at this
    exact this.2 (e ▸ hb)

/-- the block of a list comprehension, from its iterator on -/
theorem lc_blkG {elt target iter : Expr} {ifs : List Expr} {scope : Scope} {pos : Pos} {I : Addr} {o0 : Obj} {n : Nat} {B : Nat → List (Option Value) → Prop} {It : Nat → Obj → Prop} {P : Value → Addr → Result → Shared → Prop}
    (C : Cx g s0 L ns vs ((I, o0) :: N) s) (F : Fm w mg mb g env L) (hkind : scope.kind = .function) (hcell : ∀ y ∈ scope.names, y.2 ≠ .cell) (nsC : List Str)
    (Fd : ∀ Cc cenv g', Bl scope env cenv → Grd g g' N → EnvL cenv Cc → Feed prog w A target cenv I g' s Cc nsC n B It)
    (J : Nat → Array Value → List (Addr × Obj) → Prop) (h0 : J 0 #[] []) (hIt : It 0 o0) (hn : n ≤ sizeLine) (hJ : ∀ i acc N, J i acc N → acc.size ≤ i)
    (turn : ∀ Cc cenv g' D i acc k vsC Nm s1 o E' (T : Shared → Prop) (T' : Value → Shared → Prop), Bl scope env cenv → Grd g g' N → Fm w mg mb g' cenv Cc → i < n → J i acc Nm → B i vsC → Cx g' s Cc nsC vsC ((I, o) :: (D, listOf acc k) :: Nm) s1 →
      (∀ s' Nm', J (i + 1) acc Nm' → Cx g' s Cc nsC vsC ((I, o) :: (D, listOf acc k) :: Nm') s' → T s') →
      (∀ y s' Nm', J (i + 1) (acc.push y) Nm' → Cx g' s Cc nsC vsC ((I, o) :: (D, listOf acc k) :: Nm') s' → T' y s') →
      wpAny (model prog w) A (tests ifs cenv) (fun ok s₃ => if ok = true then wpAny (model prog w) A (eval elt cenv) T' E' s₃ else T s₃) E' s1)
    (fin : ∀ D Cc acc k Nm s2 vsC, J n acc Nm → Cx (hideAll s.heap [I]) s Cc nsC vsC ((D, listOf acc k) :: Nm) s2 → (∀ p ∈ ((D, listOf acc k) :: Nm), s.heap.get? p.1 = none) → s.heap.get? Cc = none → P (.ref D) Cc (.ok .next) s2) :
    wpAny (model prog w) A (newList []) (fun acc s₃ => wpAny (model prog w) A (newFunctionEnv scope env.globals (clOf (fun x => (env.cells.lookup x).getD 0) scope.names) [] env.qual none .none (some env)) (fun cenv s₄ =>
      codeAny (model prog w) A (.compStart (.ListComp elt [⟨target, iter, ifs, 0⟩] scope pos) 0 (.ref I) acc { cenv with scope := relabel scope env }) (P acc cenv.locals) s₄) E s₃) E s := by
  refine wpAny_newObj_type (wpAny_newFunctionEnv hcell (by intro y hy; simp at hy) (fun h₁ hns₁ hsb₁ => ?_) hkind)
  dsimp only at hns₁ hsb₁ ⊢
  generalize hH2 : s.heap.push { cls := .type "list", dict := none, data := .seq ([] : List Value).toArray } = H2 at hns₁ hsb₁ ⊢
  have hC : H2.objs.size = s.heap.objs.size + 1 := by rw [← hH2, Heap.size_push]
  have hI := C.nw _ (.head _)
  have hIs := Heap.lt_size hI.1
  have hDf := fresh_size s.heap
  have hCf : s.heap.get? H2.objs.size = none := Heap.get?_none_of_le (by rw [hC]; exact Nat.le_succ _)
  have k1 : ∀ b o, s.heap.get? b = some o → h₁.get? b = some o := fun b o e => hsb₁.extBut b o (fun q => by rw [q, hCf] at e; cases e) (Heap.get?_push_of_some _ (hH2 ▸ Heap.get?_push_of_some _ e))
  have hD1 : h₁.get? s.heap.objs.size = some (listOf #[] 0) := hsb₁.extBut _ _ (by rw [hC]; exact Nat.ne_of_lt (Nat.lt_succ_self _)) (Heap.get?_push_of_some _ (hH2 ▸ Heap.get?_push_size _ rfl))
  have G := C.grd
  have hE : EnvL (blk scope env H2.objs.size) H2.objs.size := blk_env F.E hkind
  have F' : Fm w mg mb (hideAll s.heap [I]) (blk scope env H2.objs.size) H2.objs.size := ⟨F.W.keeps G.k, hE⟩
  have Fd' := Fd H2.objs.size _ _ (blk_bl F.E) G hE
  have hlk : (fun _ => none : Str → Option Value) = lk nsC (List.replicate nsC.length none) := by funext x; rw [lk_nones]
  have C0 : Cx (hideAll s.heap [I]) s H2.objs.size nsC (List.replicate nsC.length none) [(I, o0), (s.heap.objs.size, listOf #[] 0)] { s with heap := h₁, toks := s.toks + ([] : List (Str × Value)).length } := by
    refine ⟨⟨hlk ▸ hns₁, fun b o e => k1 b o (of_hideAll _ e), by rw [hideAll_size, hC]; exact Nat.le_succ _⟩, fun p hp => ?_, ?_, ⟨rfl, rfl, rfl⟩⟩
    · rcases List.mem_cons.mp hp with rfl | hp
      · exact ⟨k1 _ _ hI.1, by rw [hC]; exact Nat.ne_of_lt (Nat.lt_succ_of_lt hIs), hideAll_none _ (.head _)⟩
      · rw [List.mem_singleton.mp hp]
        refine ⟨hD1, by rw [hC]; exact Nat.ne_of_lt (Nat.lt_succ_self _), ?_⟩
        cases q : (hideAll s.heap [I]).get? s.heap.objs.size with
        | none => rfl
        | some o => have := of_hideAll _ q; rw [hDf] at this; cases this
    · simp only [List.map_cons, List.map_nil, List.nodup_cons, List.mem_singleton, List.not_mem_nil, not_false_eq_true, List.nodup_nil, and_true]
      exact Nat.ne_of_lt hIs
  have loop : codeAny (model prog w) A (.compLoop (.ListComp elt [⟨target, iter, ifs, 0⟩] scope pos) 0 (.ref I) (.ref s.heap.objs.size) (blk scope env H2.objs.size))
      (P (.ref s.heap.objs.size) H2.objs.size) { s with heap := h₁, toks := s.toks + ([] : List (Str × Value)).length } := by
    refine loopL (fun m s1 => ∃ i acc k vsC Nm o, i ≤ n ∧ m = n + 1 - i ∧ J i acc Nm ∧ It i o ∧ vsC.length = nsC.length ∧ Cx (hideAll s.heap [I]) s H2.objs.size nsC vsC ((I, o) :: (s.heap.objs.size, listOf acc k) :: Nm) s1) ?_ (n + 1)
      ⟨0, #[], 0, _, [], o0, Nat.zero_le _, rfl, h0, hIt, List.length_replicate, C0⟩
    rintro m s1 E' ⟨i, acc, k, vsC, Nm, o, hi, rfl, hJi, hIti, hlen, C1⟩
    by_cases hlt : i < n
    · refine wpAny_mono (Fd'.step i vsC _ s1 o E' _ hlt hIti hlen C1 fun s2 vs2 o2 hB hl2 hIt2 C2 =>
        turn H2.objs.size _ _ s.heap.objs.size i acc k vs2 Nm s2 o2 E' (fun s₃ => ∃ m, m < n + 1 - i ∧ ∃ i acc k vsC Nm o, i ≤ n ∧ m = n + 1 - i ∧ J i acc Nm ∧ It i o ∧ vsC.length = nsC.length ∧ Cx (hideAll s.heap [I]) s H2.objs.size nsC vsC ((I, o) :: (s.heap.objs.size, listOf acc k) :: Nm) s₃)
          (fun x s₄ => wpAny (model prog w) A (call (.builtin "list.append") [.ref s.heap.objs.size, x]) (fun _ s₅ => ∃ m, m < n + 1 - i ∧ ∃ i acc k vsC Nm o, i ≤ n ∧ m = n + 1 - i ∧ J i acc Nm ∧ It i o ∧ vsC.length = nsC.length ∧ Cx (hideAll s.heap [I]) s H2.objs.size nsC vsC ((I, o) :: (s.heap.objs.size, listOf acc k) :: Nm) s₅) E' s₄)
          (blk_bl F.E) G F' hlt hJi hB C2 (fun s3 Nm' hJ' C3 => ⟨n + 1 - (i + 1), by omega, i + 1, acc, k, vs2, Nm', o2, hlt, rfl, hJ', hIt2, hl2, C3⟩) fun y s3 Nm' hJ' C3 => ?_) (fun r s₁ h => by cases r <;> first | exact h | exact h.elim) fun _ _ e => e
      refine wpAny_list_append_plain ⟨k, C3.get (.tail _ (.head _))⟩ (fun h' hp hs => ?_) (by have := hJ _ _ _ hJi; omega)
      obtain ⟨k', hk'⟩ := hp
      exact ⟨n + 1 - (i + 1), by omega, i + 1, acc.push y, k', vs2, Nm', o2, hlt, rfl, hJ', hIt2, hl2, C3.chg (i := 1) (tk := s3.toks) rfl hs hk'⟩
    · have hin : i = n := by omega
      subst hin
      refine Fd'.stop vsC _ s1 o E' _ hIti C1 fun s2 C2 => fin _ _ acc k Nm _ _ hJi C2 (fun p hp => ?_) hCf
      cases e : s.heap.get? p.1 with
      | none => rfl
      | some ob =>
        have h3 := C2.nw p hp
        by_cases q : p.1 = I
        · have nd := C1.nd
          rw [List.map_cons, List.nodup_cons] at nd
          exact absurd (q ▸ List.mem_map.mpr ⟨p, hp, rfl⟩) nd.1
        · have := hideAll_get [I] e (by simpa using q)
          rw [h3.2.2] at this; cases this
  exact codeAny_compStart_list loop (Fd'.self o0 _ _ _ hIt (k1 _ _ hI.1) loop)
/-- as a value -/
theorem lc_blk {elt target iter : Expr} {ifs : List Expr} {scope : Scope} {pos : Pos} {I : Addr} {o0 : Obj} {n : Nat} {B : Nat → List (Option Value) → Prop} {It : Nat → Obj → Prop} {Q : Value → Shared → Prop}
    (C : Cx g s0 L ns vs ((I, o0) :: N) s) (F : Fm w mg mb g env L) (hkind : scope.kind = .function) (hcell : ∀ y ∈ scope.names, y.2 ≠ .cell) (nsC : List Str)
    (Fd : ∀ Cc cenv g', Bl scope env cenv → Grd g g' N → EnvL cenv Cc → Feed prog w A target cenv I g' s Cc nsC n B It)
    (J : Nat → Array Value → List (Addr × Obj) → Prop) (h0 : J 0 #[] []) (hIt : It 0 o0) (hn : n ≤ sizeLine) (hJ : ∀ i acc N, J i acc N → acc.size ≤ i)
    (turn : ∀ Cc cenv g' D i acc k vsC Nm s1 o E' (T : Shared → Prop) (T' : Value → Shared → Prop), Bl scope env cenv → Grd g g' N → Fm w mg mb g' cenv Cc → i < n → J i acc Nm → B i vsC → Cx g' s Cc nsC vsC ((I, o) :: (D, listOf acc k) :: Nm) s1 →
      (∀ s' Nm', J (i + 1) acc Nm' → Cx g' s Cc nsC vsC ((I, o) :: (D, listOf acc k) :: Nm') s' → T s') →
      (∀ y s' Nm', J (i + 1) (acc.push y) Nm' → Cx g' s Cc nsC vsC ((I, o) :: (D, listOf acc k) :: Nm') s' → T' y s') →
      wpAny (model prog w) A (tests ifs cenv) (fun ok s₃ => if ok = true then wpAny (model prog w) A (eval elt cenv) T' E' s₃ else T s₃) E' s1)
    (fin : ∀ D acc k Nm s', J n acc Nm → Cx g s0 L ns vs ((D, listOf acc k) :: (Nm ++ N)) s' → Q (.ref D) s') :
    wpAny (model prog w) A (newList []) (fun acc s₃ => wpAny (model prog w) A (newFunctionEnv scope env.globals (clOf (fun x => (env.cells.lookup x).getD 0) scope.names) [] env.qual none .none (some env)) (fun cenv s₄ =>
      codeAny (model prog w) A (.compStart (.ListComp elt [⟨target, iter, ifs, 0⟩] scope pos) 0 (.ref I) acc { cenv with scope := relabel scope env }) (compPost (model prog w) A E none Q acc cenv.locals) s₄) E s₃) E s :=
  lc_blkG (P := fun D Cc r s' => compPost (model prog w) A E none Q D Cc r s') C F hkind hcell nsC Fd J h0 hIt hn hJ turn fun D Cc acc k Nm s2 vsC hJi C2 hM hC => ⟨_, C2.fr.ns, fun h' hs => fin _ acc k Nm _ hJi (C.back C2 hM hC hs)⟩
/-- as a statement's value, stored before the block's names are let go -/
theorem lc_blkU {elt target iter : Expr} {ifs : List Expr} {scope : Scope} {pos : Pos} {I : Addr} {o0 : Obj} {n : Nat} {B : Nat → List (Option Value) → Prop} {It : Nat → Obj → Prop} {Q : Value → Shared → Prop} {x : Str} {ix : Nat} {px : Pos}
    (C : Cx g s0 L ns vs ((I, o0) :: N) s) (F : Fm w mg mb g env L) (hkind : scope.kind = .function) (hcell : ∀ y ∈ scope.names, y.2 ≠ .cell) (nsC : List Str)
    (Fd : ∀ Cc cenv g', Bl scope env cenv → Grd g g' N → EnvL cenv Cc → Feed prog w A target cenv I g' s Cc nsC n B It)
    (J : Nat → Array Value → List (Addr × Obj) → Prop) (h0 : J 0 #[] []) (hIt : It 0 o0) (hn : n ≤ sizeLine) (hJ : ∀ i acc N, J i acc N → acc.size ≤ i)
    (turn : ∀ Cc cenv g' D i acc k vsC Nm s1 o E' (T : Shared → Prop) (T' : Value → Shared → Prop), Bl scope env cenv → Grd g g' N → Fm w mg mb g' cenv Cc → i < n → J i acc Nm → B i vsC → Cx g' s Cc nsC vsC ((I, o) :: (D, listOf acc k) :: Nm) s1 →
      (∀ s' Nm', J (i + 1) acc Nm' → Cx g' s Cc nsC vsC ((I, o) :: (D, listOf acc k) :: Nm') s' → T s') →
      (∀ y s' Nm', J (i + 1) (acc.push y) Nm' → Cx g' s Cc nsC vsC ((I, o) :: (D, listOf acc k) :: Nm') s' → T' y s') →
      wpAny (model prog w) A (tests ifs cenv) (fun ok s₃ => if ok = true then wpAny (model prog w) A (eval elt cenv) T' E' s₃ else T s₃) E' s1)
    (hx : IsLoc env ns x ix) (hix : ix < vs.length)
    (fin : ∀ D acc k Nm s', J n acc Nm → Cx g s0 L ns (vs.set ix (some (.ref D))) ((D, listOf acc k) :: (Nm ++ N)) s' → Q .none s') :
    wpAny (model prog w) A (newList []) (fun acc s₃ => wpAny (model prog w) A (newFunctionEnv scope env.globals (clOf (fun x => (env.cells.lookup x).getD 0) scope.names) [] env.qual none .none (some env)) (fun cenv s₄ =>
      codeAny (model prog w) A (.compStart (.ListComp elt [⟨target, iter, ifs, 0⟩] scope pos) 0 (.ref I) acc { cenv with scope := relabel scope env }) (compPost (model prog w) A E (some (assign (.Name x px) env)) Q acc cenv.locals) s₄) E s₃) E s :=
  lc_blkG (P := fun D Cc r s' => compPost (model prog w) A E (some (assign (.Name x px) env)) Q D Cc r s') C F hkind hcell nsC Fd J h0 hIt hn hJ turn fun D Cc acc k Nm s2 vsC hJi C2 hM hC => by
    obtain ⟨oC, es, ep, ho, hr⟩ := id C2.fr.ns
    have C3 := C.back C2 hM hC ⟨rfl, fun _ _ => rfl⟩
    have hn := C.ne hC
    have C4 : Cx g s0 L ns vs ((Cc, oC) :: (((D, listOf acc k) :: Nm) ++ N)) s2 := by
      refine ⟨C3.fr, fun p hp => ?_, ?_, C3.same⟩
      · rcases List.mem_cons.mp hp with rfl | hp
        · exact ⟨ho, hn.1, hn.2.1⟩
        · exact C3.nw p hp
      · rw [List.map_cons, List.nodup_cons]
        refine ⟨fun q => ?_, C3.nd⟩
        obtain ⟨p, hp, e⟩ := List.mem_map.mp q
        rcases List.mem_append.mp hp with hp | hp
        · exact (C2.nw p hp).2.1 e
        · exact hn.2.2 (List.mem_cons_of_mem _ (List.mem_map.mpr ⟨p, hp, e⟩))
    refine wpAny_assign_Name (stL C4 F.E hx hix fun s3 C5 => ?_)
    refine ⟨_, ⟨oC, es, ep, C5.get (.head _), hr⟩, fun h' hs => fin D acc k Nm _ hJi (C5.away (tk := s3.toks) fun b ob hb e => (hs.2 b hb).trans e)⟩
/-- the block of a dict comprehension, from its iterator on -/
theorem dc_blk {kx vx target iter : Expr} {ifs : List Expr} {scope : Scope} {pos : Pos} {I : Addr} {o0 : Obj} {n : Nat} {B : Nat → List (Option Value) → Prop} {It : Nat → Obj → Prop} {Q : Value → Shared → Prop}
    (C : Cx g s0 L ns vs ((I, o0) :: N) s) (F : Fm w mg mb g env L) (hkind : scope.kind = .function) (hcell : ∀ y ∈ scope.names, y.2 ≠ .cell) (nsC : List Str)
    (Fd : ∀ Cc cenv g', Bl scope env cenv → Grd g g' N → EnvL cenv Cc → Feed prog w A target cenv I g' s Cc nsC n B It)
    (J : Nat → List (Int × Value) → List (Addr × Obj) → Prop) (h0 : J 0 [] []) (hIt : It 0 o0) (hn : n ≤ sizeLine) (hJ : ∀ i acc N, J i acc N → acc.length ≤ i)
    (turn : ∀ Cc cenv g' D i acc k vsC Nm s1 o E' (T : Shared → Prop) (T' : Value → Value → Shared → Prop), Bl scope env cenv → Grd g g' N → Fm w mg mb g' cenv Cc → i < n → J i acc Nm → B i vsC → k.IsDictOf (intKind prog w) acc → Cx g' s Cc nsC vsC ((I, o) :: (D, k) :: Nm) s1 →
      (∀ s' Nm', J (i + 1) acc Nm' → Cx g' s Cc nsC vsC ((I, o) :: (D, k) :: Nm') s' → T s') →
      (∀ x t y s' Nm', J (i + 1) (stored acc x y) Nm' → Cx g' s Cc nsC vsC ((I, o) :: (D, k) :: Nm') s' → T' (.int x t) y s') →
      wpAny (model prog w) A (tests ifs cenv) (fun ok s₃ => if ok = true then wpAny (model prog w) A (eval kx cenv) (fun kv s₄ => wpAny (model prog w) A (eval vx cenv) (fun vv s₅ => T' kv vv s₅) E' s₄) E' s₃ else T s₃) E' s1)
    (fin : ∀ D acc k Nm s', (D == sysModules) = false → J n acc Nm → k.IsDictOf (intKind prog w) acc → Cx g s0 L ns vs ((D, k) :: (Nm ++ N)) s' → Q (.ref D) s') :
    wpAny (model prog w) A newDict (fun acc s₃ => wpAny (model prog w) A (newFunctionEnv scope env.globals (clOf (fun x => (env.cells.lookup x).getD 0) scope.names) [] env.qual none .none (some env)) (fun cenv s₄ =>
      codeAny (model prog w) A (.compStart (.DictComp kx vx [⟨target, iter, ifs, 0⟩] scope pos) 0 (.ref I) acc { cenv with scope := relabel scope env }) (compPost (model prog w) A E none Q acc cenv.locals) s₄) E s₃) E s := by
  refine wpAny_newObj_type (wpAny_newFunctionEnv hcell (by intro y hy; simp at hy) (fun h₁ hns₁ hsb₁ => ?_) hkind)
  dsimp only at hns₁ hsb₁ ⊢
  generalize hH2 : s.heap.push { cls := .type "dict", dict := none, data := .dict #[] } = H2 at hns₁ hsb₁ ⊢
  have hC : H2.objs.size = s.heap.objs.size + 1 := by rw [← hH2, Heap.size_push]
  have hI := C.nw _ (.head _)
  have hIs := Heap.lt_size hI.1
  have hDf := fresh_size s.heap
  have hsys : (s.heap.objs.size == sysModules) = false := by
    have hsz : 197 < s.heap.objs.size := Heap.lt_size ((C.wd F.W).K 197 _ (by rfl))
    exact beq_eq_false_iff_ne.mpr (fun q => by rw [q] at hsz; exact absurd hsz (by decide))
  have hCf : s.heap.get? H2.objs.size = none := Heap.get?_none_of_le (by rw [hC]; exact Nat.le_succ _)
  have k1 : ∀ b o, s.heap.get? b = some o → h₁.get? b = some o := fun b o e => hsb₁.extBut b o (fun q => by rw [q, hCf] at e; cases e) (Heap.get?_push_of_some _ (hH2 ▸ Heap.get?_push_of_some _ e))
  obtain ⟨od0, hod0⟩ : ∃ o : Obj, o = { cls := .type "dict", dict := none, data := .dict #[] } := ⟨_, rfl⟩
  have hdo : od0.IsDictOf (intKind prog w) [] := by
    obtain ⟨o, ho, hd⟩ := Heap.dictOf_iff.mp (Heap.DictOf.new (knd := intKind prog w) s.heap)
    rw [Heap.get?_push_size _ rfl] at ho
    cases ho; rw [hod0]; exact hd
  have hD1 : h₁.get? s.heap.objs.size = some od0 := hsb₁.extBut _ _ (by rw [hC]; exact Nat.ne_of_lt (Nat.lt_succ_self _)) (Heap.get?_push_of_some _ (hH2 ▸ (by rw [hod0]; exact Heap.get?_push_size _ rfl)))
  have G := C.grd
  have hE : EnvL (blk scope env H2.objs.size) H2.objs.size := blk_env F.E hkind
  have F' : Fm w mg mb (hideAll s.heap [I]) (blk scope env H2.objs.size) H2.objs.size := ⟨F.W.keeps G.k, hE⟩
  have Fd' := Fd H2.objs.size _ _ (blk_bl F.E) G hE
  have hlk : (fun _ => none : Str → Option Value) = lk nsC (List.replicate nsC.length none) := by funext x; rw [lk_nones]
  have C0 : Cx (hideAll s.heap [I]) s H2.objs.size nsC (List.replicate nsC.length none) [(I, o0), (s.heap.objs.size, od0)] { s with heap := h₁, toks := s.toks + ([] : List (Str × Value)).length } := by
    refine ⟨⟨hlk ▸ hns₁, fun b o e => k1 b o (of_hideAll _ e), by rw [hideAll_size, hC]; exact Nat.le_succ _⟩, fun p hp => ?_, ?_, ⟨rfl, rfl, rfl⟩⟩
    · rcases List.mem_cons.mp hp with rfl | hp
      · exact ⟨k1 _ _ hI.1, by rw [hC]; exact Nat.ne_of_lt (Nat.lt_succ_of_lt hIs), hideAll_none _ (.head _)⟩
      · rw [List.mem_singleton.mp hp]
        refine ⟨hD1, by rw [hC]; exact Nat.ne_of_lt (Nat.lt_succ_self _), ?_⟩
        cases q : (hideAll s.heap [I]).get? s.heap.objs.size with
        | none => rfl
        | some o => have := of_hideAll _ q; rw [hDf] at this; cases this
    · simp only [List.map_cons, List.map_nil, List.nodup_cons, List.mem_singleton, List.not_mem_nil, not_false_eq_true, List.nodup_nil, and_true]
      exact Nat.ne_of_lt hIs
  have loop : codeAny (model prog w) A (.compLoop (.DictComp kx vx [⟨target, iter, ifs, 0⟩] scope pos) 0 (.ref I) (.ref s.heap.objs.size) (blk scope env H2.objs.size))
      (compPost (model prog w) A E none Q (.ref s.heap.objs.size) H2.objs.size) { s with heap := h₁, toks := s.toks + ([] : List (Str × Value)).length } := by
    refine loopD (fun m s1 => ∃ i acc k vsC Nm o, i ≤ n ∧ m = n + 1 - i ∧ J i acc Nm ∧ k.IsDictOf (intKind prog w) acc ∧ It i o ∧ vsC.length = nsC.length ∧ Cx (hideAll s.heap [I]) s H2.objs.size nsC vsC ((I, o) :: (s.heap.objs.size, k) :: Nm) s1) ?_ (n + 1)
      ⟨0, [], od0, _, [], o0, Nat.zero_le _, rfl, h0, hdo, hIt, List.length_replicate, C0⟩
    rintro m s1 E' ⟨i, acc, k, vsC, Nm, o, hi, rfl, hJi, hdi, hIti, hlen, C1⟩
    by_cases hlt : i < n
    · refine wpAny_mono (Fd'.step i vsC _ s1 o E' _ hlt hIti hlen C1 fun s2 vs2 o2 hB hl2 hIt2 C2 =>
        turn H2.objs.size _ _ s.heap.objs.size i acc k vs2 Nm s2 o2 E' (fun s₃ => ∃ m, m < n + 1 - i ∧ ∃ i acc k vsC Nm o, i ≤ n ∧ m = n + 1 - i ∧ J i acc Nm ∧ k.IsDictOf (intKind prog w) acc ∧ It i o ∧ vsC.length = nsC.length ∧ Cx (hideAll s.heap [I]) s H2.objs.size nsC vsC ((I, o) :: (s.heap.objs.size, k) :: Nm) s₃)
          (fun kv vv s₄ => wpAny (model prog w) A (dictSet s.heap.objs.size kv vv) (fun _ s₅ => ∃ m, m < n + 1 - i ∧ ∃ i acc k vsC Nm o, i ≤ n ∧ m = n + 1 - i ∧ J i acc Nm ∧ k.IsDictOf (intKind prog w) acc ∧ It i o ∧ vsC.length = nsC.length ∧ Cx (hideAll s.heap [I]) s H2.objs.size nsC vsC ((I, o) :: (s.heap.objs.size, k) :: Nm) s₅) E' s₄)
          (blk_bl F.E) G F' hlt hJi hB hdi C2 (fun s3 Nm' hJ' C3 => ⟨n + 1 - (i + 1), by omega, i + 1, acc, k, vs2, Nm', o2, hlt, rfl, hJ', hdi, hIt2, hl2, C3⟩) fun x t y s3 Nm' hJ' C3 => ?_) (fun r s₁ h => by cases r <;> first | exact h | exact h.elim) fun _ _ e => e
      refine wpAny_dictSet_pairs (knd := intKind prog w) (k := x) (intKind_is _ _ _ _) (Heap.dictOf_iff.mpr ⟨_, C3.get (.tail _ (.head _)), hdi⟩) (fun h' hp hs => ?_) (by have := hJ _ _ _ hJi; omega)
      obtain ⟨k', hk', hd'⟩ := Heap.dictOf_iff.mp hp
      exact ⟨n + 1 - (i + 1), by omega, i + 1, stored acc x y, k', vs2, Nm', o2, hlt, rfl, hJ', hd', hIt2, hl2, C3.chg (i := 1) rfl hs hk'⟩
    · have hin : i = n := by omega
      subst hin
      refine Fd'.stop vsC _ s1 o E' _ hIti C1 fun s2 C2 => ⟨_, C2.fr.ns, fun h' hs => fin _ acc k Nm _ hsys hJi hdi (C.back C2 (fun p hp => ?_) hCf hs)⟩
      cases e : s.heap.get? p.1 with
      | none => rfl
      | some ob =>
        have h3 := C2.nw p hp
        by_cases q : p.1 = I
        · have nd := C1.nd
          rw [List.map_cons, List.nodup_cons] at nd
          exact absurd (q ▸ List.mem_map.mpr ⟨p, hp, rfl⟩) nd.1
        · have := hideAll_get [I] e (by simpa using q)
          rw [h3.2.2] at this; cases this
  exact codeAny_compStart_dict loop (Fd'.self o0 _ _ _ hIt (k1 _ _ hI.1) loop)
end
/-! ## B10 -/
section
variable {w : World} {mg mb : Str → Option Value} {prog : Program} {A : Around} {E : Value → Shared → Prop} {g : Heap} {s0 s s' : Shared} {L Cc : Addr} {ns : List Str} {vs : List (Option Value)} {N : List (Addr × Obj)} {env cenv : Env}

theorem feed_walk {I : Addr} {fp : List Addr} {n : Nat} {P : Nat → Value → Prop} {St : Nat → Heap → Prop} {It : Nat → Obj → Prop} {x : Str} {px : Pos} (W : Walks prog w A I fp [I] n P St) (hE : EnvL cenv Cc) (hx : IsLoc cenv [x] x 0)
    (h1 : ∀ i o vs N s, It i o → Cx g s0 Cc [x] vs ((I, o) :: N) s → St i s.heap) (h2 : ∀ i (h : Heap), St i h → ∃ o, h.get? I = some o ∧ It i o) (h3 : ∀ o (h : Heap), It 0 o → h.get? I = some o → (∀ b ob, g.get? b = some ob → h.get? b = some ob) → St 0 h)
    (h4 : ∀ o s E' (Q : Value → Shared → Prop), It 0 o → s.heap.get? I = some o → Q (.ref I) s → wpAny (model prog w) A (pyIter (.ref I)) Q E' s) :
    Feed prog w A (.Name x px) cenv I g s0 Cc [x] n (fun i vs => ∃ v, P i v ∧ vs = [some v]) It where
  step := fun i vs N s o E' T hi hIt hl C hT => by
    refine W.item i _ _ _ hi (h1 _ _ _ _ _ hIt C) fun v h' tk hP hst hk => ?_
    obtain ⟨o', ho', hIt'⟩ := h2 _ _ hst
    have C1 := C.walk (tk := tk) hk ho'
    refine wpAny_pure (wpAny_assign_Name (stL C1 hE hx (by rw [hl]; exact Nat.one_pos) fun s2 C2 => hT s2 _ o' ⟨v, hP, ?_⟩ ?_ hIt' C2))
    · match vs, hl with
      | [_], _ => rfl
    · rw [List.length_set]; exact hl
  stop := fun vs N s o E' T hIt C hT => by
    refine W.done _ _ _ (h1 _ _ _ _ _ hIt C) fun h' tk hk => hT _ ?_
    have k2 : ∀ b ob, b ≠ I → s.heap.get? b = some ob → h'.get? b = some ob := fun b ob hb => hk b ob (by simpa using hb)
    exact C.away k2
  self := h4

def LIt (l : Addr) (i : Nat) (o : Obj) : Prop := o.cls = .type "list_iterator" ∧ o.data = .fields #[.ref l, .int i 0]
theorem feed_list {I l : Addr} {its : Array Value} {k : Nat} {x : Str} {px : Pos} (hh : A.handled = none) (hE : EnvL cenv Cc) (hx : IsLoc cenv [x] x 0) (hl : g.get? l = some (listOf its k)) (hne : l ≠ I) :
    Feed prog w A (.Name x px) cenv I g s0 Cc [x] its.size (fun i vs => ∃ v, its[i]? = some v ∧ vs = [some v]) (LIt l) :=
  feed_walk (Walks.list (prog := prog) (w := w) hh I l hne its) hE hx
    (fun i o vs N s hIt C => ⟨⟨o, (C.nw _ (.head _)).1, hIt.1, hIt.2⟩, ⟨_, C.fr.keep _ _ hl, rfl, _, rfl⟩⟩)
    (fun i h hst => let ⟨o, h1, h2, h3⟩ := hst.1; ⟨o, h1, h2, h3⟩)
    (fun o h hIt ho hk => ⟨⟨o, ho, hIt.1, hIt.2⟩, ⟨_, hk _ _ hl, rfl, _, rfl⟩⟩)
    (fun o s E' Q hIt ho hQ => wpAny_pyIter_listiter ⟨o, ho, hIt.1, hIt.2⟩ hQ)
def RIt (a c : Int) (n : Nat) (i : Nat) (o : Obj) : Prop := o = { cls := .type "range_iterator", dict := none, data := .fields #[rawInt (a + (i : Nat) * c), rawInt ((n : Int) - (i : Nat)), rawInt c], slots := #[] }
theorem feed_range {I : Addr} {a c : Int} {n : Nat} {x : Str} {px : Pos} (hh : A.handled = none) (hE : EnvL cenv Cc) (hx : IsLoc cenv [x] x 0) :
    Feed prog w A (.Name x px) cenv I g s0 Cc [x] n (fun i vs => ∃ v, (∃ t, v = .int (a + i * c) t) ∧ vs = [some v]) (RIt a c n) :=
  feed_walk (Walks.range (prog := prog) (w := w) hh I a c n) hE hx
    (fun i o vs N s hIt C => by have := (C.nw _ (.head _)).1; rw [hIt] at this; exact this)
    (fun i h hst => ⟨_, hst, rfl⟩)
    (fun o h hIt ho hk => by rw [hIt] at ho; exact ho)
    (fun o s E' Q hIt ho hQ => wpAny_pyIter_rangeiter (by rw [hIt] at ho; exact ho) hQ)

/-- a list comprehension, evaluated in a frame -/
theorem lcE {elt target iter : Expr} {ifs : List Expr} {scope : Scope} {pos : Pos} {Q : Value → Shared → Prop}
    (hcl : (scope.names.all fun p => !(p.2 == .free) || (env.cells.lookup p.1).isSome) = true) (hkind : scope.kind = .function) (hnames : ∀ x ∈ scope.names, x.2 = .local → scope.names.lookup x.1 = some .local)
    (h : wpAny (model prog w) A (eval iter env) (fun x s₁ => wpAny (model prog w) A (pyIter x) (fun it s₂ => wpAny (model prog w) A (newList []) (fun acc s₃ => wpAny (model prog w) A (newFunctionEnv scope env.globals (clOf (fun x => (env.cells.lookup x).getD 0) scope.names) [] env.qual none .none (some env)) (fun cenv s₄ =>
      codeAny (model prog w) A (.compStart (.ListComp elt [⟨target, iter, ifs, 0⟩] scope pos) 0 it acc { cenv with scope := relabel scope env }) (compPost (model prog w) A E none Q acc cenv.locals) s₄) E s₃) E s₂) E s₁) E s)
    (hs : ∀ x, foldedSetIterable iter env x = pure x) :
    wpAny (model prog w) A (eval (.ListComp elt [⟨target, iter, ifs, 0⟩] scope pos) env) Q E s := by
  rw [eval_ListComp]
  exact wpAny_comprehension_free (use := none) rfl hs (closure_of hcl) hkind hnames h
theorem dcE {kx vx target iter : Expr} {ifs : List Expr} {scope : Scope} {pos : Pos} {Q : Value → Shared → Prop}
    (hcl : (scope.names.all fun p => !(p.2 == .free) || (env.cells.lookup p.1).isSome) = true) (hkind : scope.kind = .function) (hnames : ∀ x ∈ scope.names, x.2 = .local → scope.names.lookup x.1 = some .local)
    (h : wpAny (model prog w) A (eval iter env) (fun x s₁ => wpAny (model prog w) A (pyIter x) (fun it s₂ => wpAny (model prog w) A newDict (fun acc s₃ => wpAny (model prog w) A (newFunctionEnv scope env.globals (clOf (fun x => (env.cells.lookup x).getD 0) scope.names) [] env.qual none .none (some env)) (fun cenv s₄ =>
      codeAny (model prog w) A (.compStart (.DictComp kx vx [⟨target, iter, ifs, 0⟩] scope pos) 0 it acc { cenv with scope := relabel scope env }) (compPost (model prog w) A E none Q acc cenv.locals) s₄) E s₃) E s₂) E s₁) E s)
    (hs : ∀ x, foldedSetIterable iter env x = pure x) :
    wpAny (model prog w) A (eval (.DictComp kx vx [⟨target, iter, ifs, 0⟩] scope pos) env) Q E s := by
  rw [arm_eval_DictComp]
  exact wpAny_comprehension_free (use := none) rfl hs (closure_of hcl) hkind hnames h

theorem pyI_list {l : Addr} {its : Array Value} {k : Nat} {Q : Value → Shared → Prop} (C : Cx g s0 L ns vs N s) (hl : s.heap.get? l = some (listOf its k))
    (h : ∀ s' I o, LIt l 0 o → Cx g s0 L ns vs ((I, o) :: N) s' → Q (.ref I) s') : wpAny (model prog w) A (pyIter (.ref l)) Q E s :=
  wpAny_pyIter_list ⟨_, hl, rfl, _, rfl⟩ (h _ _ _ ⟨rfl, rfl⟩ (C.push _ rfl))
theorem pyI_range {r : Addr} {a b c : Int} {t u v : Tok} {n : Nat} {Q : Value → Shared → Prop} (C : Cx g s0 L ns vs N s) (hr : IsRange s.heap r a b c t u v) (hsm : Builtin.Range.small a b c = true) (hn : Builtin.Range.rangeSize a b c = n)
    (h : ∀ s' I o, RIt a c n 0 o → Cx g s0 L ns vs ((I, o) :: N) s' → Q (.ref I) s') : wpAny (model prog w) A (pyIter (.ref r)) Q E s := by
  refine wpAny_pyIter_range hr hsm (h _ _ _ ?_ (C.push _ rfl))
  rw [hn]; simp [RIt]
theorem tests_nil {cenv : Env} {Q : Bool → Shared → Prop} (h : Q true s) : wpAny (model prog w) A (tests [] cenv) Q E s := wpAny_tests_nil h
theorem tests_no {elt : Expr} {cenv : Env} {T : Shared → Prop} {T' : Value → Shared → Prop} (h : wpAny (model prog w) A (eval elt cenv) T' E s) :
    wpAny (model prog w) A (tests [] cenv) (fun ok s₃ => if ok = true then wpAny (model prog w) A (eval elt cenv) T' E s₃ else T s₃) E s := tests_nil (by rw [if_pos rfl]; exact h)
theorem tests_one {cenv : Env} {c : Expr} {Q : Bool → Shared → Prop} (h : wpAny (model prog w) A (isTrue c cenv (eval c cenv)) Q E s) : wpAny (model prog w) A (tests [c] cenv) Q E s := wpAny_tests_one h
end
/-! ## B11 -/
theorem pos_lt : ∀ {ns : List Str} {x : Str} {i : Nat}, pos ns x = some i → i < ns.length
  | n :: ns, x, i, h => by
    unfold pos at h
    split at h
    · cases h; exact Nat.succ_pos _
    · cases hp : pos ns x with
      | none => rw [hp] at h; cases h
      | some j => rw [hp] at h; cases h; exact Nat.succ_lt_succ (pos_lt hp)
def setAll (kindOf : Str → Option NameKind) (ns : List Str) : List (Str × Value) → List (Option Value) → List (Option Value)
  | [], vs => vs
  | (n, v) :: r, vs => setAll kindOf ns r (if kindOf n = some .local then vs.set ((pos ns n).getD 0) (some v) else vs)
theorem bindL_lk {kindOf : Str → Option NameKind} {ns : List Str} : ∀ (binds : List (Str × Value)) (vs : List (Option Value)), vs.length = ns.length →
    (binds.all fun y => kindOf y.1 != some .local || (pos ns y.1).isSome) = true → bindL kindOf binds (lk ns vs) = lk ns (setAll kindOf ns binds vs)
  | [], vs, _, _ => rfl
  | (n, v) :: r, vs, hl, h => by
    rw [List.all_cons, Bool.and_eq_true] at h
    unfold bindL setAll
    by_cases e : kindOf n = some .local
    · rw [if_pos e, if_pos e]
      have h1 := h.1
      rw [e] at h1
      obtain ⟨i, hi⟩ := Option.isSome_iff_exists.mp (show (pos ns n).isSome = true by simpa using h1)
      rw [← lk_set hi (by rw [hl]; exact pos_lt hi), hi]
      exact bindL_lk r _ (by rw [List.length_set]; exact hl) h.2
    · rw [if_neg e, if_neg e]
      exact bindL_lk r _ hl h.2
theorem bindsV {kindOf : Str → Option NameKind} {binds : List (Str × Value)} {ns : List Str} {vs : List (Option Value)} (h : (binds.all fun y => kindOf y.1 != some .local || (pos ns y.1).isSome) = true)
    (e : setAll kindOf ns binds (List.replicate ns.length none) = vs) : bindL kindOf binds (fun _ => none) = lk ns vs := by
  rw [show (fun _ => none : Str → Option Value) = lk ns (List.replicate ns.length none) from by funext x; rw [lk_nones], bindL_lk _ _ List.length_replicate h, e]
theorem strM {prog : Program} {w : World} {mg mb : Str → Option Value} {A : Around} {E : Value → Shared → Prop} {g : Heap} {s0 s : Shared} {L : Addr} {ns : List Str} {vs : List (Option Value)} {N : List (Addr × Obj)} {env : Env} {o : Expr} {name : Str} {apos pos : Pos} {e : Expr} {id : String} {x : Str} {Q : Value → Shared → Prop}
    (C : Cx g s0 L ns vs N s) (F : Fm w mg mb g env L) (ho : PE (FN env g ns vs N) (Kn g N) o (.str x))
    (hbase : attributeBase o name env (eval o env) = eval o env) (hs : starEach [e] env = [(false, eval e env)]) (hline : (apos.endLine == pos.line) = true) (slot : Slot "str" name id) (hty : typeOf (.builtin id) = pure (.type "method_descriptor"))
    (h : ∀ s' t, Cx g s0 L ns vs N s' → wpAny (model prog w) A (eval e env) (fun v s₁ => wpAny (model prog w) A (call (.builtin id) [.str x t, v]) Q E s₁) E s') :
    wpAny (model prog w) A (eval (.Call (.Attribute o name apos) [e] [] pos) env) Q E s :=
  wpAny_Call_method hbase (by rw [hs]; rfl) hline PySem.F.plainAttrs_str slot hty (evP C F ho fun s2 t C2 => ⟨typeIs_str _ _ _, (fun _ e => nomatch e),
    PyProof.Rows.callWith_method1 (splC (cut (h _ t C2) fun v s' q => spl0 q) (by rw [hs]; rfl)) (by rw [hs]; rfl) (by rfl)⟩)
/-! ## B12 -/
theorem Rm.under {A : Around} {k : Nat} {f : Addr} {rest : List Value} {kw : List (Str × Value)} (R : Rm A (k + 1)) : Rm (A.under (.builtin "type.__call__" ⟨.ref f :: rest, kw⟩)) k :=
  ⟨R.hh, by
    have := R.dp
    have e : (Code.builtin "type.__call__" ⟨.ref f :: rest, kw⟩).weight = 1 := by kernel_rfl
    show A.depth + (Code.weight (.builtin "type.__call__" ⟨.ref f :: rest, kw⟩)) + 10 * k ≤ 700
    rw [e]; omega, by
    have := R.un
    have e : (Code.builtin "type.__call__" ⟨.ref f :: rest, kw⟩).cUnits = 1 := by kernel_rfl
    show A.units + (Code.cUnits (.builtin "type.__call__" ⟨.ref f :: rest, kw⟩)) + 40 * k ≤ 5000
    rw [e]; omega⟩

section
variable {w : World} {mg mb : Str → Option Value} {prog : Program} {A : Around} {E : Value → Shared → Prop} {g : Heap} {s0 s s' : Shared} {L : Addr} {ns : List Str} {vs : List (Option Value)} {N : List (Addr × Obj)} {env : Env}

/-- objects of the frame's own have been changed elsewhere -/
theorem Cx.mod {M M' : List (Addr × Obj)} (C : Cx g s0 L ns vs (M ++ N) s) (hM : M'.map (·.1) = M.map (·.1)) (k : Kp (M.map (·.1)) s s') (ho : ∀ p ∈ M', s'.heap.get? p.1 = some p.2) : Cx g s0 L ns vs (M' ++ N) s' := by
  have hn : ∀ p ∈ M', p.1 ≠ L ∧ g.get? p.1 = none := fun p hp => by
    have hp1 : p.1 ∈ M.map (·.1) := hM ▸ List.mem_map.mpr ⟨p, hp, rfl⟩
    obtain ⟨q, hq, e⟩ := List.mem_map.mp hp1
    have := C.nw q (List.mem_append_left _ hq)
    rw [e] at this; exact this.2
  have hm : ∀ b, b ∈ M.map (·.1) → b ≠ L ∧ g.get? b = none := fun b hb => by
    rw [← hM] at hb
    obtain ⟨p, hp, rfl⟩ := List.mem_map.mp hb
    exact hn p hp
  refine ⟨⟨C.fr.ns.at' fun ob e => k.keep _ ob (fun q => (hm _ q).1 rfl) e, fun b ob e => k.keep b ob (fun q => by rw [(hm _ q).2] at e; cases e) (C.fr.keep b ob e), C.fr.above⟩, fun p hp => ?_, ?_, C.same.trans k.same⟩
  · rcases List.mem_append.mp hp with hp | hp
    · exact ⟨ho p hp, hn p hp⟩
    · have hp' := C.nw p (List.mem_append_right _ hp)
      refine ⟨k.keep _ _ (fun q => ?_) hp'.1, hp'.2⟩
      have nd := C.nd
      rw [List.map_append, List.nodup_append] at nd
      exact nd.2.2 _ q _ (List.mem_map.mpr ⟨p, hp, rfl⟩) rfl
  · rw [List.map_append, hM, ← List.map_append]; exact C.nd

theorem upd_set {d : Addr} {o o' : Obj} : ∀ {N : List (Addr × Obj)} {j : Nat}, (N.map (·.1)).Nodup → N[j]? = some (d, o) → Upd d o o' N (N.set j (d, o'))
  | [], _, _, h => by simp at h
  | q :: N, 0, nd, h => by
    simp at h; subst h
    rw [List.map_cons, List.nodup_cons] at nd
    exact .head fun p hp e => nd.1 (e ▸ List.mem_map.mpr ⟨p, hp, rfl⟩)
  | q :: N, j + 1, nd, h => by
    rw [List.map_cons, List.nodup_cons] at nd
    simp at h
    exact .tail (fun e => nd.1 (e ▸ List.mem_map.mpr ⟨_, List.mem_of_getElem? h, rfl⟩)) (upd_set nd.2 h)

/-- what the class says of a name's reading and storing -/
structure RdA (K : Frag) (c : Addr) (name : Str) : Prop where
  g : plainGet K c name = true
  h : hasDictIn K c = true
  a : findIn K (.ref c) name = some none
structure StA (K : Frag) (c : Addr) (name : Str) : Prop where
  s : findIn K (.ref c) "__setattr__" = some (some (.builtin "object.__setattr__"))
  p : plainOver K c = true
  t : takerIn K c name = some none
  h : hasDictIn K c = true

theorem inst {x dx c : Addr} {es : List DictEntry} {n : Nat} (C : Cx g s0 L ns vs N s) (hx : Kn g N x (instObj c dx)) (hd : Kn g N dx (PySem.W.dictOf es n)) : PySem.W.InstAt s.heap x (instObj c dx) c (some (PySem.W.dictOf es n)) :=
  ⟨hx.get C, rfl, rfl, hd.get C⟩
theorem atE {o : Expr} {attr : Str} {pos : Pos} {x dx c : Addr} {es : List DictEntry} {n : Nat} {v : Value} {Q : Value → Shared → Prop} (C : Cx g s0 L ns vs N s) (F : Fm w mg mb g env L) (ho : PE (FN env g ns vs N) (Kn g N) o (.ref x)) (hx : Kn g N x (instObj c dx)) (hd : Kn g N dx (PySem.W.dictOf es n))
    (r : RdA (KF w) c attr) (hl : getL attr es = some (some v)) (hv : handedIn v = true) (k : ∀ s', Cx g s0 L ns vs N s' → Q v s') (hbase : attributeBase o attr env (eval o env) = eval o env) (ht : ∀ r, letTemporaryGo o (.ref x) r = pure ()) :
    wpAny (model prog w) A (eval (.Attribute o attr pos) env) Q E s := by
  rw [arm_eval_Attribute, hbase]
  refine wpAny_bind (evR C F ho fun s1 C1 => wpAny_bind (wpAny_standAt (wpAny_bind (wpAny_holding ?_))))
  refine PySem.W.get_own C1.fr F.W.K (inst C1 hx hd) r.g r.h r.a (by rfl) hl hv ?_
  exact wpAny_bind (wpAny_of_eq (ht v) (wpAny_pure (k _ (C1.toks _))))
theorem atS {o : Expr} {attr : Str} {rest : List Stmt} {x dx c : Addr} {es : List DictEntry} {n j : Nat} {v : Value} {Q : Flow → Shared → Prop} (C : Cx g s0 L ns vs N s) (F : Fm w mg mb g env L) (ho : PE (FN env g ns vs N) (Kn g N) o (.ref x)) (hx : Kn g N x (instObj c dx)) (hj : N[j]? = some (dx, PySem.W.dictOf es n))
    (r : StA (KF w) c attr) (hl : (getL attr es).isSome = true) (hz : es.length ≤ 100)
    (k : ∀ s' tk, Cx g s0 L ns vs (N.set j (dx, PySem.W.dictOf (putL attr (PyData.keyHash w.params attr) (.str attr tk) v es) (putN attr es n))) s' → wpAny (model prog w) A (execs rest env) Q E s') :
    wpAny (model prog w) A (eval o env) (fun ov s₂ => wpAny (model prog w) A (setAttr ov attr v) (fun _ s' => wpAny (model prog w) A (execs rest env) Q E s') E s₂) E s := by
  refine evR C F ho fun s1 C1 => ?_
  have U := upd_set (o' := PySem.W.dictOf (putL attr (PyData.keyHash w.params attr) (.str attr (s1.toks + 1)) v es) (putN attr es n)) C1.nd hj
  refine PySem.W.set_dict C1.fr F.W.K C1.nw (inst C1 hx (.inl (List.mem_of_getElem? hj))) rfl r.s r.p r.t r.h hl rfl U ?_ fun h' F' N' => k _ (s1.toks + 1) ⟨F', N', ?_, ⟨C1.same.gens, C1.same.drawn, C1.same.os⟩⟩
  · have : ∀ (es : List DictEntry) (a b : _) (c d : Value), (putL a b c d es).length ≤ es.length + 1 := by
      intro es a b c d
      induction es with
      | nil => simp [putL]
      | cons e r ih => unfold putL; split <;> simp <;> omega
    have := this es attr (PyData.keyHash w.params attr) (.str attr (s1.toks + 1)) v
    omega
  · rw [set_map hj]; exact C1.nd
end
/-! ## B13 -/
section
variable {w : World} {mg mb : Str → Option Value} {prog : Program} {A : Around} {E : Value → Shared → Prop} {g : Heap} {s0 s s' : Shared} {L : Addr} {ns : List Str} {vs : List (Option Value)} {N : List (Addr × Obj)} {env : Env}

theorem unpI {t : Addr} {its : Array Value} {n : Nat} {Q : List Value → Shared → Prop} (hh : A.handled = none) (C : Cx g s0 L ns vs N s) (ht : Kn g N t (tupOf its)) (hn : n = its.size) (k : ∀ s', Cx g s0 L ns vs N s' → Q its.toList s') :
    wpAny (model prog w) A (unpackItems (.ref t) n none) Q E s := by
  subst hn
  exact PyProof.Rows.unpackItems_tuple hh ⟨_, ht.get C, rfl, _, rfl⟩ fun h' he => k _ (C.up ⟨⟨rfl, rfl, rfl⟩, fun b o e => he b o (Nat.ne_of_lt (Heap.lt_size e)) e⟩)
theorem asTup {elts : List Expr} {k : Nat} {pos : Pos} {t : Addr} {its : Array Value} {Q : Unit → Shared → Prop} (hh : A.handled = none) (C : Cx g s0 L ns vs N s) (ht : Kn g N t (tupOf its)) (hn : (assignEach elts env).length = its.size) (hstar : (assignEach elts env).findIdx? (·.1) = none)
    (h : ∀ s', Cx g s0 L ns vs N s' → wpAny (model prog w) A (assignInOrder ((assignEach elts env).map (·.2)) its.toList) Q E s') :
    wpAny (model prog w) A (assign (.Tuple elts k pos) env (.ref t)) Q E s :=
  PyProof.Rows.assign_Tuple_tuple hh ⟨_, ht.get C, rfl, _, rfl⟩ hn hstar fun h' he => h _ (C.up ⟨⟨rfl, rfl, rfl⟩, fun b o e => he b o (Nat.ne_of_lt (Heap.lt_size e)) e⟩)
/-- a, b = e where e's value is a tuple of two -/
theorem as2 {a b : Str} {pa pb tpos pos : Pos} {k i j : Nat} {value : Expr} {rest : List Stmt} {Q : Flow → Shared → Prop} (hh : A.handled = none) (F : Fm w mg mb g env L) (ha : IsLoc env ns a i) (hb : IsLoc env ns b j) (hs : swapsWithSole [.Tuple [.Name a pa, .Name b pb] k tpos] value pos.line env = pure false) (hw : swappedStores [.Tuple [.Name a pa, .Name b pb] k tpos] value env = pure none)
    (h : wpAny (model prog w) A (eval value env) (fun v s₁ => ∃ t x y vs N, v = .ref t ∧ Kn g N t (tupOf #[x, y]) ∧ Cx g s0 L ns vs N s₁ ∧ i < vs.length ∧ j < vs.length ∧ ∀ s', Cx g s0 L ns ((vs.set i (some x)).set j (some y)) N s' → wpAny (model prog w) A (execs rest env) Q E s') E s) :
    wpAny (model prog w) A (execs (.Assign [.Tuple [.Name a pa, .Name b pb] k tpos] value pos :: rest) env) Q E s := by
  refine wpAny_execs_cons (PyProof.Rows.Assign_Tuple (cut h fun v s₁ h1 => ?_) hs hw)
  obtain ⟨t, x, y, vs, N, rfl, ht, C, hi, hj, k⟩ := h1
  refine asTup hh C ht rfl rfl fun s2 C2 => PyProof.Rows.assignInOrder_cons (PyProof.Rows.assign_Name (stL C2 F.E ha hi fun s3 C3 => PyProof.Rows.assignInOrder_cons (PyProof.Rows.assign_Name (stL C3 F.E hb (by rw [List.length_set]; exact hj) fun s4 C4 => PyProof.Rows.assignInOrder_nil (k _ C4)))))
theorem as2S {a b : Str} {pa pb tpos pos : Pos} {k i j : Nat} {value : Expr} {rest : List Stmt} {Q : Flow → Shared → Prop} (hh : A.handled = none) (F : Fm w mg mb g env L) (ha : IsLoc env ns a i) (hb : IsLoc env ns b j) (hs : swapsWithSole [.Tuple [.Name a pa, .Name b pb] k tpos] value pos.line env = pure false) (hw : swappedStores [.Tuple [.Name a pa, .Name b pb] k tpos] value env = pure (some [a, b]))
    (h : wpAny (model prog w) A (eval value env) (fun v s₁ => ∃ t x y vs N, v = .ref t ∧ Kn g N t (tupOf #[x, y]) ∧ Cx g s0 L ns vs N s₁ ∧ i < vs.length ∧ j < vs.length ∧ ∀ s', Cx g s0 L ns ((vs.set j (some y)).set i (some x)) N s' → wpAny (model prog w) A (execs rest env) Q E s') E s) :
    wpAny (model prog w) A (execs (.Assign [.Tuple [.Name a pa, .Name b pb] k tpos] value pos :: rest) env) Q E s := by
  refine wpAny_execs_cons (PyProof.Rows.Assign_Tuple_swapped (names := [a, b]) (cut h fun v s₁ h1 => ?_) hs hw)
  obtain ⟨t, x, y, vs, N, rfl, ht, C, hi, hj, k⟩ := h1
  refine unpI hh C ht rfl fun s2 C2 => PyProof.Rows.assignInOrder_cons (wpAny_bindName (stL C2 F.E hb hj fun s3 C3 => PyProof.Rows.assignInOrder_cons (wpAny_bindName (stL C3 F.E ha (by rw [List.length_set]; exact hi) fun s4 C4 => PyProof.Rows.assignInOrder_nil (k _ C4)))))
theorem Cx.perm {N' : List (Addr × Obj)} (C : Cx g s0 L ns vs N s) (h : N.Perm N') : Cx g s0 L ns vs N' s :=
  ⟨C.fr, fun r hr => C.nw r (h.mem_iff.mpr hr), (h.map (·.1)).nodup_iff.mp C.nd, C.same⟩
theorem Cx.swap {p q : Addr × Obj} (C : Cx g s0 L ns vs (p :: q :: N) s) : Cx g s0 L ns vs (q :: p :: N) s := C.perm (.swap _ _ _)
/-- an if whose ways meet again -/
theorem ifJ {test : Expr} {p : Pos} {c : Bool} {body orelse rest : List Stmt} {Q : Flow → Shared → Prop} (C : Cx g s0 L ns vs N s) (F : Fm w mg mb g env L) (h : PT (FN env g ns vs N) (Kn g N) test c) (P : Shared → Prop)
    (k1 : c = true → ∀ s' (T : Flow → Shared → Prop), (∀ s, P s → T .next s) → Cx g s0 L ns vs N s' → wpAny (model prog w) A (execs body env) T E s')
    (k2 : c = false → ∀ s' (T : Flow → Shared → Prop), (∀ s, P s → T .next s) → Cx g s0 L ns vs N s' → wpAny (model prog w) A (execs orelse env) T E s')
    (k : ∀ s, P s → wpAny (model prog w) A (execs rest env) Q E s) :
    wpAny (model prog w) A (execs (.If test body orelse p :: rest) env) Q E s :=
  ifT C F h (fun hc s' T hT => k1 hc s' T fun s hp => hT.nx s (k s hp)) (fun hc s' T hT => k2 hc s' T fun s hp => hT.nx s (k s hp))
/-- a tuple display of two -/
theorem tup2 {x y : Expr} {k : Nat} {p : Pos} {Q : Value → Shared → Prop} (hs : starEach [x, y] env = [(false, eval x env), (false, eval y env)])
    (h : wpAny (model prog w) A (eval x env) (fun v s₁ => wpAny (model prog w) A (eval y env) (fun u s₂ => ∃ vs N, Cx g s0 L ns vs N s₂ ∧ ∀ s' t, Cx g s0 L ns vs ((t, tupOf #[v, u]) :: N) s' → Q (.ref t) s') E s₁) E s) :
    wpAny (model prog w) A (eval (.Tuple [x, y] k p) env) Q E s := by
  refine PyProof.Rows.Tuple_ ?_
  rw [hs]
  refine PySem.Calls.spliced_cons (cut h fun v s₁ h1 => PySem.Calls.spliced_cons (cut h1 fun u s₂ h2 => PySem.Calls.spliced_nil ?_))
  obtain ⟨vs, N, C, k⟩ := h2
  exact newT C (Nat.le_of_ble_eq_true rfl) fun s' a C' => k s' a C'
theorem tupL {l : Addr} {its : Array Value} {k : Nat} {Q : Value → Shared → Prop} (C : Cx g s0 L ns vs N s) (hl : Kn g N l (listOf its k)) (hz : its.size ≤ sizeLine) (h : ∀ s' t, Cx g s0 L ns vs ((t, tupOf its) :: N) s' → Q (.ref t) s') :
    wpAny (model prog w) A (call (.type "tuple") [.ref l]) Q E s :=
  PySem.call_tuple_list ⟨_, hl.get C, rfl, _, rfl⟩ (fun h' hk => h _ _ ((C.up (s' := { s with heap := h' }) ⟨⟨rfl, rfl, rfl⟩, hk⟩).push _ rfl)) hz
/-- a class's own attribute -/
theorem atC {o : Expr} {attr : Str} {pos : Pos} {c : Addr} {mc v : Value} {Q : Value → Shared → Prop} (C : Cx g s0 L ns vs N s) (F : Fm w mg mb g env L)
    (ho : ∀ {Q : Value → Shared → Prop}, Q (.ref c) s → wpAny (model prog w) A (eval o env) Q E s) (h1 : typeIn (KF w) (.ref c) = some mc) (h2 : readsIn (KF w) c mc = true) (h3 : findCls (KF w) (.ref c) mc attr = some (.val v)) (hv : handedIn v = true)
    (k : ∀ s', Cx g s0 L ns vs N s' → Q v s') (hbase : attributeBase o attr env (eval o env) = eval o env) (ht : ∀ r, letTemporaryGo o (.ref c) r = pure ()) :
    wpAny (model prog w) A (eval (.Attribute o attr pos) env) Q E s := by
  rw [arm_eval_Attribute, hbase]
  refine wpAny_bind (ho (wpAny_bind (wpAny_standAt (wpAny_bind (wpAny_holding ?_)))))
  exact PySem.W.cls_val C.fr F.W.K h1 h2 h3 hv (wpAny_bind (wpAny_of_eq (ht v) (wpAny_pure (k _ (C.toks _)))))
end
/-! ## B14 -/
/-- what the making of a function reads -/
structure Tb (mg : Str → Option Value) (h : Heap) : Prop where
  bm : ∃ bm ob, mg "__builtins__" = some (.ref bm) ∧ bm ≠ builtinsNs ∧ h.get? bm = some ob ∧ ob.cls = .type "module" ∧ ob.dict = some builtinsNs ∧ ob.data = .plain
  c1 : CodeHd h 41 37
  c2 : CodeHd h 48 44
theorem Tb.keeps {mg : Str → Option Value} {h h' : Heap} (B : Tb mg h) (k : ∀ b o, h.get? b = some o → h'.get? b = some o) : Tb mg h' :=
  ⟨let ⟨bm, ob, a, b, c, r⟩ := B.bm; ⟨bm, ob, a, b, k _ _ c, r⟩, B.c1.keeps k, B.c2.keeps k⟩
/-! the tables of codes of the two defs that make a def, as objects of the frame's own -/
def TF (P : Addr) (line col : Nat) : Option (Addr × Obj) → List (Addr × Obj)
  | none => [(P, tabObj #[])]
  | some (c, o) => [(P, tabObj #[rawInt line, rawInt col, .ref c]), (c, o)]
def TV (qual : Str) (ts : Option (Addr × Obj)) : Prop := ∀ c o, ts = some (c, o) → ∃ us t, o.data = .fields us ∧ us[1]? = some (.str qual t)
def q37 : Str := Str.ofString "_int2digits.<locals>.inner"
def q44 : Str := Str.ofString "_digits2int.<locals>.inner"
def TM (M : List (Addr × Obj)) : Prop := ∃ t1 t2, M.Perm (TF 37 35 4 t1 ++ TF 44 50 4 t2) ∧ TV q37 t1 ∧ TV q44 t2
structure TS (s : Shared) (M : List (Addr × Obj)) : Prop where
  tm : TM M
  at_ : ∀ p ∈ M, s.heap.get? p.1 = some p.2
  nd : (M.map (·.1)).Nodup
structure Gr (h : Heap) (M M' : List (Addr × Obj)) : Prop where
  nw : ∀ p ∈ M', p.1 ∈ M.map (·.1) ∨ h.get? p.1 = none
  sub : ∀ a ∈ M.map (·.1), a ∈ M'.map (·.1)
structure TC (s s' : Shared) (M M' : List (Addr × Obj)) : Prop where
  ts : TS s' M'
  kp : Kp (M.map (·.1)) s s'
  gr : Gr s.heap M M'
theorem TM.fields {M : List (Addr × Obj)} (h : TM M) {p : Addr × Obj} (hp : p ∈ M) : ∃ us, p.2.data = .fields us := by
  obtain ⟨t1, t2, hM, v1, v2⟩ := h
  have key : ∀ {P : Addr} {line col : Nat} {q : Str} {ts : Option (Addr × Obj)}, TV q ts → p ∈ TF P line col ts → ∃ us, p.2.data = .fields us := by
    intro P line col q ts v hp
    cases ts with
    | none => rw [List.mem_singleton.mp hp]; exact ⟨_, rfl⟩
    | some x =>
      rcases List.mem_cons.mp hp with rfl | hp
      · exact ⟨_, rfl⟩
      · rw [List.mem_singleton.mp hp]; obtain ⟨us, t, hd, _⟩ := v _ _ rfl; exact ⟨us, hd⟩
  rcases List.mem_append.mp (hM.mem_iff.mp hp) with hp | hp
  · exact key v1 hp
  · exact key v2 hp

section
variable {w : World} {mg mb : Str → Option Value} {prog : Program} {A : Around} {E : Value → Shared → Prop} {g : Heap} {s0 s s' : Shared} {L : Addr} {ns : List Str} {vs : List (Option Value)} {N : List (Addr × Obj)} {env : Env}


theorem Cx.call {M M' : List (Addr × Obj)} (C : Cx g s0 L ns vs (N ++ M) s) (t : TC s s' M M') : Cx g s0 L ns vs (N ++ M') s' := by
  have nd := C.nd
  rw [List.map_append, List.nodup_append] at nd
  have hM : ∀ b, b ∈ M.map (·.1) → b ≠ L ∧ g.get? b = none := fun b hb => by
    obtain ⟨p, hp, rfl⟩ := List.mem_map.mp hb
    exact (C.nw p (List.mem_append_right _ hp)).2
  have hM' : ∀ p ∈ M', p.1 ≠ L ∧ g.get? p.1 = none := fun p hp => by
    rcases t.gr.nw p hp with h | h
    · exact hM _ h
    · have := C.ne h; exact ⟨this.1, this.2.1⟩
  refine ⟨⟨C.fr.ns.at' fun ob e => t.kp.keep _ ob (fun q => (hM _ q).1 rfl) e, fun b ob e => t.kp.keep b ob (fun q => by rw [(hM _ q).2] at e; cases e) (C.fr.keep b ob e), C.fr.above⟩, fun p hp => ?_, ?_, C.same.trans t.kp.same⟩
  · rcases List.mem_append.mp hp with hp | hp
    · have hp' := C.nw p (List.mem_append_left _ hp)
      exact ⟨t.kp.keep _ _ (fun q => nd.2.2 _ (List.mem_map.mpr ⟨p, hp, rfl⟩) _ q rfl) hp'.1, hp'.2⟩
    · exact ⟨t.ts.at_ p hp, hM' p hp⟩
  · rw [List.map_append, List.nodup_append]
    refine ⟨nd.1, t.ts.nd, fun a ha b hb e => ?_⟩
    obtain ⟨p, hp, rfl⟩ := List.mem_map.mp ha
    obtain ⟨q, hq, rfl⟩ := List.mem_map.mp hb
    rcases t.gr.nw q hq with h | h
    · exact nd.2.2 _ (List.mem_map.mpr ⟨p, hp, rfl⟩) _ h e
    · rw [← e, (C.nw p (List.mem_append_left _ hp)).1] at h; cases h
theorem Cx.callR {M M' : List (Addr × Obj)} {a : Addr} {o : Obj} (C : Cx g s0 L ns vs (N ++ M) s) (t : TC s s' M M') (hn : s.heap.get? a = none) (ho : s'.heap.get? a = some o) (hd : ∀ us, o.data ≠ .fields us) : Cx g s0 L ns vs ((a, o) :: (N ++ M')) s' := by
  have C' := C.call t
  have n := C.ne hn
  refine ⟨C'.fr, fun p hp => ?_, ?_, C'.same⟩
  · rcases List.mem_cons.mp hp with rfl | hp
    · exact ⟨ho, n.1, n.2.1⟩
    · exact C'.nw p hp
  · rw [List.map_cons, List.nodup_cons]
    refine ⟨fun hm => ?_, C'.nd⟩
    obtain ⟨p, hp, e⟩ := List.mem_map.mp hm
    rcases List.mem_append.mp hp with hp | hp
    · exact n.2.2 (List.mem_map.mpr ⟨p, List.mem_append_left _ hp, e⟩)
    · have h1 := t.ts.at_ p hp
      have e' : p.1 = a := e
      rw [e', ho] at h1
      obtain ⟨us, h2⟩ := t.ts.tm.fields hp
      cases h1; exact hd us h2
/-- the frame's own tables, to be handed to a callee -/
theorem Cx.tabs {M : List (Addr × Obj)} (C : Cx g s0 L ns vs (N ++ M) s) (h : TM M) : TS s M :=
  ⟨h, fun p hp => C.get (List.mem_append_right _ hp), by have nd := C.nd; rw [List.map_append, List.nodup_append] at nd; exact nd.2.1⟩
theorem Cx.hidM {M : List (Addr × Obj)} (C : Cx g s0 L ns vs (N ++ M) s) : ∀ b o, g.get? b = some o → (hideAll s.heap (M.map (·.1))).get? b = some o := fun b o e =>
  hideAll_get _ (C.fr.keep b o e) fun q => by
    obtain ⟨p, hp, e2⟩ := List.mem_map.mp q
    have := (C.nw p (List.mem_append_right _ hp)).2.2
    rw [e2, e] at this; cases this
/-- a frame's end: what it hands to its caller -/
theorem Cx.tc {M M' : List (Addr × Obj)} (C : Cx (hideAll s0.heap (M.map (·.1))) s0 L ns vs (N ++ M') s) (h : TM M') (hn : Gr s0.heap M M') : TC s0 s M M' :=
  ⟨C.tabs h, ⟨C.same, fun b o hb e => C.fr.keep _ _ (hideAll_get _ e hb)⟩, hn⟩

theorem Cx.newer {l : List Addr} {a : Addr} (C : Cx (hideAll s0.heap l) s0 L ns vs N s) (hn : s.heap.get? a = none) : a ∈ l ∨ s0.heap.get? a = none := by
  by_cases h : a ∈ l
  · exact .inl h
  · refine .inr ?_
    cases e : s0.heap.get? a with
    | none => rfl
    | some o => rw [C.fr.keep _ _ (hideAll_get _ e h)] at hn; cases hn
theorem Cx.fresh {M M' : List (Addr × Obj)} {p : Addr × Obj} (C : Cx (hideAll s0.heap (M.map (·.1))) s0 L ns vs (N ++ M') s) (hp : p ∈ N) (hM : Gr s0.heap M M') : s0.heap.get? p.1 = none := by
  have nd := C.nd
  rw [List.map_append, List.nodup_append] at nd
  cases e : s0.heap.get? p.1 with
  | none => rfl
  | some o =>
    have h1 := (C.nw p (List.mem_append_left _ hp)).2.2
    by_cases h : p.1 ∈ M.map (·.1)
    · exact absurd rfl (nd.2.2 _ (List.mem_map.mpr ⟨p, hp, rfl⟩) _ (hM.sub _ h))
    · rw [hideAll_get _ e h] at h1; cases h1
theorem Gr.refl (h : Heap) (M : List (Addr × Obj)) : Gr h M M := ⟨fun p hp => .inl (List.mem_map.mpr ⟨p, hp, rfl⟩), fun _ h => h⟩
theorem Gr.step {M M1 M2 : List (Addr × Obj)} (C : Cx (hideAll s0.heap (M.map (·.1))) s0 L ns vs N s) (a : Gr s0.heap M M1) (b : Gr s.heap M1 M2) : Gr s0.heap M M2 :=
  ⟨fun p hp => by
    rcases b.nw p hp with h | h
    · obtain ⟨q, hq, e⟩ := List.mem_map.mp h
      exact e ▸ a.nw q hq
    · exact C.newer h, fun x hx => b.sub _ (a.sub _ hx)⟩
theorem Cx.hidN {M : List (Addr × Obj)} {p : Addr × Obj} (C : Cx g s0 L ns vs (N ++ M) s) (hp : p ∈ N) : (hideAll s.heap (M.map (·.1))).get? p.1 = some p.2 :=
  hideAll_get _ (C.nw p (List.mem_append_left _ hp)).1 fun q => by
    have nd := C.nd
    rw [List.map_append, List.nodup_append] at nd
    exact nd.2.2 _ (List.mem_map.mpr ⟨p, hp, rfl⟩) _ q rfl
theorem tabs_grow {h : Heap} {P c' : Addr} {line col : Nat} {oc : Obj} {ts : Option (Addr × Obj)} {M Rm : List (Addr × Obj)} (hM : M.Perm (TF P line col ts ++ Rm)) (hnew : ts = none → c' ∈ M.map (·.1) ∨ h.get? c' = none) (hold : ∀ x, ts = some x → x = (c', oc)) :
    Gr h M (TF P line col (some (c', oc)) ++ Rm) := by
  have hm : ∀ a, a ∈ M.map (·.1) ↔ a ∈ (TF P line col ts ++ Rm).map (·.1) := fun a => (hM.map _).mem_iff
  cases ts with
  | none =>
    refine ⟨fun p hp => ?_, fun a ha => ?_⟩
    · rcases List.mem_cons.mp hp with rfl | hp
      · exact .inl ((hm _).mpr (.head _))
      · rcases List.mem_cons.mp hp with rfl | hp
        · exact hnew rfl
        · exact .inl ((hm _).mpr (.tail _ (List.mem_map.mpr ⟨p, hp, rfl⟩)))
    · rcases List.mem_cons.mp ((hm a).mp ha) with rfl | h2
      · exact .head _
      · exact .tail _ (.tail _ h2)
  | some x =>
    rw [hold x rfl] at hm
    exact ⟨fun p hp => .inl ((hm _).mpr (List.mem_map.mpr ⟨p, hp, rfl⟩)), fun a ha => (hm a).mp ha⟩
theorem mkFn {name qual : Str} {params : Arguments} {body : List Stmt} {scope : Scope} {pos : Pos} {firstLine : Nat} {clos : List (Str × Addr)} {c P : Addr} {M Rm : List (Addr × Obj)} {ts : Option (Addr × Obj)} {Q : Value → Shared → Prop}
    (C : Cx g s0 L ns vs (N ++ M) s) (F : Fm w mg mb g env L) (B : Tb mg g) (hcl : closureFor scope env = pure clos) (hcode : env.code = .ref c) (hc : CodeHd g c P) (hM : M.Perm (TF P pos.line pos.col ts ++ Rm)) (hV : TV qual ts)
    (h : ∀ f c' oc us t ctv doc s', oc.data = .fields us → us[1]? = some (.str qual t) → (ts = none → s.heap.get? c' = none) → (∀ x, ts = some x → x = (c', oc)) →
      Cx g s0 L ns vs ((f, fnMade name qual params body scope clos doc ((mg "__name__").getD .none) c' ctv) :: (N ++ (TF P pos.line pos.col (some (c', oc)) ++ Rm))) s' → Q (.ref f) s') :
    wpAny (model prog w) A (makeFunction name qual params (.stmts body) scope env [] [] [] pos firstLine) Q E s := by
  have W := C.wd F.W
  have C0 := C.perm ((hM.append_left N).trans List.perm_append_comm)
  have hm : ∃ ps, (P, tabObj ps) ∈ TF P pos.line pos.col ts := by cases ts with
    | none => exact ⟨_, .head _⟩
    | some x => exact ⟨_, .head _⟩
  obtain ⟨ps0, hm⟩ := hm
  have hP := C0.nw _ (List.mem_append_left _ (List.mem_append_left _ hm))
  have hgP : mainGlobals ≠ P := fun q => by
    obtain ⟨o, es, ep, e, _⟩ := F.W.g
    rw [q, hP.2.2] at e; cases e
  obtain ⟨bm, ob, b1, b2, b3, b4, b5, b6⟩ := B.bm
  have hbP : bm ≠ P := fun q => by rw [q, hP.2.2] at b3; cases b3
  have hbG : bm ≠ mainGlobals := fun q => by
    obtain ⟨o, es, ep, e, hd, _⟩ := F.W.g
    rw [q, e] at b3; cases b3; rw [hd] at b6; cases b6
  have hB : s.heap.BuiltinsAt mg P := ⟨bm, ob, b1, b2, hbG, hbP, C.fr.keep _ _ b3, b4, b5, b6⟩
  have fin : ∀ {X : List (Addr × Obj)}, (X ++ Rm ++ N).Perm (N ++ (X ++ Rm)) := List.perm_append_comm
  cases ts with
  | none =>
    have hP1 := (C0.nw (P, tabObj #[]) (.head _)).1
    refine makeFunction_K (mg := mg) hcl F.E.glo W.g hcode (hc.keeps C.fr.keep) hP1 trivial rfl hgP hB fun c' ctv doc h' tk hx hge hlt hrec htb => ?_
    obtain ⟨c, oc, us, t, e, ho, hd, hv⟩ := hrec
    cases e
    have hfr := Heap.get?_none_of_le hge
    have C1 := C0.modAt (j := 0) (s' := { s with heap := h', toks := tk }) rfl ⟨rfl, rfl, rfl⟩ (fun b ob hb e => hx b ob hb e) htb
    have n := C0.ne hfr
    have C3 : Cx g s0 L ns vs ((P, tabObj #[rawInt pos.line, rawInt pos.col, .ref c']) :: (c', oc) :: (Rm ++ N)) { s with heap := h', toks := tk } := by
      refine Cx.swap ⟨C1.fr, fun p hp => ?_, ?_, C1.same⟩
      · rcases List.mem_cons.mp hp with rfl | hp
        · exact ⟨ho, n.1, n.2.1⟩
        · exact C1.nw p hp
      · rw [List.map_cons, List.nodup_cons]
        exact ⟨n.2.2, C1.nd⟩
    exact h _ c' oc us t ctv doc _ hd hv (fun _ => hfr) (fun x hx => nomatch hx) ((C3.push _ rfl).perm (.cons _ (fin (X := [_, _]))))
  | some x =>
    obtain ⟨c', oc⟩ := x
    obtain ⟨us, t, hd, hv⟩ := hV _ _ rfl
    have hP1 := (C0.nw (P, tabObj #[rawInt pos.line, rawInt pos.col, .ref c']) (.head _)).1
    refine makeFunction_hit (mg := mg) (cv := .ref c') hcl F.E.glo W.g hcode (hc.keeps C.fr.keep) hP1 trivial (by simp [codeAmong, rawInt]) hB fun ctv doc h' tk hk hsz => ?_
    have C1 := C0.up (s' := { s with heap := h', toks := tk }) ⟨⟨rfl, rfl, rfl⟩, hk⟩
    exact h _ c' oc us t ctv doc _ hd hv (fun q => nomatch q) (fun x hx => (Option.some.inj hx).symm) ((C1.push _ rfl).perm (.cons _ (fin (X := [_, _]))))

/-- x.bit_length() -/
theorem bitL {o : Expr} {x : Int} {apos pos : Pos} {Q : Value → Shared → Prop} (C : Cx g s0 L ns vs N s) (F : Fm w mg mb g env L) (ho : PE (FN env g ns vs N) (Kn g N) o (.int x)) (hbase : attributeBase o (Str.ofString "bit_length") env (eval o env) = eval o env) (hline : (apos.endLine == pos.line) = true)
    (h : ∀ s' t, Cx g s0 L ns vs N s' → Q (.int (Builtin.Int.intBits x) t) s') : wpAny (model prog w) A (eval (.Call (.Attribute o (Str.ofString "bit_length") apos) [] [] pos) env) Q E s :=
  wpAny_Call_method hbase (by rfl) hline PySem.F.plainAttrs_int PySem.F.slot_int_bit_length PySem.F.type_int_bit_length (evI C F ho fun s2 t C2 => ⟨typeIs_int _ _ _, (fun _ e => nomatch e), PyProof.Rows.callWith_method0 (PyProof.Rows.call_int_bit_length (h _ _ (C2.toks _)))⟩)
/-- l.append(e) and l.reverse(), as statements -/
theorem appS {o e : Expr} {apos pos p : Pos} {j : Nat} {l : Addr} {its : Array Value} {k : Nat} {pv : PV} {rest : List Stmt} {Q : Flow → Shared → Prop} (C : Cx g s0 L ns vs N s) (F : Fm w mg mb g env L) (ho : PE (FN env g ns vs N) (Kn g N) o (.ref l)) (he : PE (FN env g ns vs N) (Kn g N) e pv) (hj : N[j]? = some (l, listOf its k)) (hz : its.size < sizeLine)
    (hbase : attributeBase o (Str.ofString "append") env (eval o env) = eval o env) (hs : starEach [e] env = [(false, eval e env)]) (hline : (apos.endLine == pos.line) = true) (hi : interactive env = false)
    (h : ∀ s' t, Cx g s0 L ns vs (N.set j (l, listOf (its.push (pv.val t)) (k + 1))) s' → wpAny (model prog w) A (execs rest env) Q E s') :
    wpAny (model prog w) A (execs (.Expr (.Call (.Attribute o (Str.ofString "append") apos) [e] [] pos) p :: rest) env) Q E s := by
  have hl := List.mem_of_getElem? hj
  refine wpAny_execs_cons (wpAny_Expr (wpAny_Call_method hbase (by rw [hs]; rfl) hline PySem.F.plainAttrs_list PySem.F.slot_list_append PySem.F.type_list_append (evR C F ho fun s2 C2 => ⟨⟨_, C2.get hl, rfl⟩, (fun a e => by cases e; exact ⟨_, C2.get hl, rfl⟩),
    PyProof.Rows.callWith_method1 (splC (evP C2 F he fun s3 t C3 => spl0 ?_) (by rw [hs]; rfl)) (by rw [hs]; rfl) (by rfl)⟩)) hi (by rfl))
  have U := upd_set (o' := listOf (its.push (pv.val t)) (k + 1)) C3.nd hj
  exact PySem.W.append_K C3.fr C3.nw U (fun h' F' N' => h _ t ⟨F', N', by rw [set_map hj]; exact C3.nd, ⟨C3.same.gens, C3.same.drawn, C3.same.os⟩⟩) (Nat.le_of_lt hz)
theorem revS {o : Expr} {apos pos p : Pos} {j : Nat} {l : Addr} {its : Array Value} {k : Nat} {rest : List Stmt} {Q : Flow → Shared → Prop} (C : Cx g s0 L ns vs N s) (F : Fm w mg mb g env L) (ho : PE (FN env g ns vs N) (Kn g N) o (.ref l)) (hj : N[j]? = some (l, listOf its k)) (hz : its.size < sizeLine)
    (hbase : attributeBase o (Str.ofString "reverse") env (eval o env) = eval o env) (hline : (apos.endLine == pos.line) = true) (hi : interactive env = false)
    (h : ∀ s', Cx g s0 L ns vs (N.set j (l, listOf its.toList.reverse.toArray k)) s' → wpAny (model prog w) A (execs rest env) Q E s') :
    wpAny (model prog w) A (execs (.Expr (.Call (.Attribute o (Str.ofString "reverse") apos) [] [] pos) p :: rest) env) Q E s := by
  have hl := List.mem_of_getElem? hj
  refine wpAny_execs_cons (wpAny_Expr (wpAny_Call_method hbase (by rfl) hline PySem.F.plainAttrs_list PySem.F.slot_list_reverse PySem.F.type_list_reverse (evR C F ho fun s2 C2 => ⟨⟨_, C2.get hl, rfl⟩, (fun a e => by cases e; exact ⟨_, C2.get hl, rfl⟩),
    PyProof.Rows.callWith_method0 ?_⟩)) hi (by rfl))
  have U := upd_set (o' := listOf its.toList.reverse.toArray k) C2.nd hj
  exact PySem.W.kl_reverse C2.fr C2.nw rfl U (by rw [Array.length_toList]; exact Nat.le_of_lt hz) (fun h' F' N' => h _ ⟨F', N', by rw [set_map hj]; exact C2.nd, ⟨C2.same.gens, C2.same.drawn, C2.same.os⟩⟩)
/-- for x in reversed(l) -/
theorem it_rev {l : Addr} {its : Array Value} {k : Nat} {x : Str} {ix : Nat} {px : Pos} {body : List Stmt} {Q : Flow → Shared → Prop} {F : Value → Shared → Prop} (hh : A.handled = none)
    (C : Cx g s0 L ns vs N s) (hE : EnvL env L) (hx : IsLoc env ns x ix) (hl : Kn g N l (listOf its k))
    (J : Nat → List (Option Value) → List (Addr × Obj) → Prop) (hst : (∃ ob, g.get? l = some ob) ∨ (∃ ob, ∀ i vs N, J i vs N → (l, ob) ∈ N)) (h0 : J 0 vs N) (hlen : ∀ i vs N, J i vs N → ix < vs.length)
    (turn : ∀ (i : Nat) v vs N s I o E' T, i < its.size → its[its.size - 1 - i]? = some v → J i vs N → Cx g s0 L ns (vs.set ix (some v)) ((I, o) :: N) s → Turn (J (i + 1)) g s0 L ns I o Q T → wpAny (model prog w) A (execs body env) T E' s)
    (done : ∀ vs N s, J its.size vs N → Cx g s0 L ns vs N s → Q .next s) :
    wpAny (model prog w) A (call (.type "reversed") [.ref l]) (fun v0 s₁ => wpAny (model prog w) A (pyIter v0) (fun it s₂ => codeAny (model prog w) A (.forLoop (.Name x px) it body [] env) (fun r s' => match r with | .ok f => Q f s' | .error e => F e s') s₂) E s₁) E s := by
  have hL : s.heap.IsList l its := ⟨_, hl.get C, rfl, _, rfl⟩
  have hne : l ≠ s.heap.objs.size := Nat.ne_of_lt (Heap.lt_size (hl.get C))
  have hI : ∀ j, j = (its.size : Int) - 1 → (s.heap.push (revObj l j)).IsRevIter s.heap.objs.size l j := fun j _ => ⟨_, Heap.get?_push_size _ rfl, rfl, rfl⟩
  refine PySem.call_reversed_list hL (wpAny_pyIter_revIter (hI _ rfl) ?_)
  refine for_core (Walks.listRev (prog := prog) (w := w) hh s.heap.objs.size l hne its) (fun i h st => ⟨_, st.2.1.choose_spec.1⟩) J (fun b hb => ?_) (C.push _ rfl) hE hx ⟨Nat.zero_le _, by rw [show ((its.size : Int) - 1 - ((0 : Nat) : Int)) = (its.size : Int) - 1 from by omega]; exact hI _ rfl, hL.push _⟩ h0 hlen (fun i v vs N s o E' T hi hP hJ C' hT => turn i v vs N s _ o E' T hi hP hJ C' hT) done
  rcases List.mem_cons.mp hb with rfl | hb
  · exact .inl rfl
  · rw [List.mem_singleton.mp hb]; exact .inr hst
end
/-! ## B15 -/
section
variable {w : World} {mg mb : Str → Option Value} {prog : Program} {A : Around} {E : Value → Shared → Prop} {g : Heap} {s0 s s' : Shared} {L : Addr} {ns : List Str} {vs : List (Option Value)} {N : List (Addr × Obj)} {env : Env}

theorem oShl {a b : Int} {t u : Tok} {Q : Value → Shared → Prop} (C : Cx g s0 L ns vs N s) (h0 : 0 ≤ b) (h1 : b ≤ 1000000) (h2 : a.natAbs < 2 ^ 64) (h : ∀ s' t, Cx g s0 L ns vs N s' → Q (.int (a * 2 ^ b.toNat) t) s') :
    wpAny (model prog w) A (binaryOp .LShift (.int a t) (.int b u)) Q E s := PyProof.Rows.lshift_int_small h0 h1 h2 (h _ _ (C.toks _))
/-- what a frame knows is in the heap less some objects of its own -/
theorem Cx.hid {l : List Addr} (C : Cx g s0 L ns vs N s) (hl : ∀ a ∈ l, g.get? a = none) : ∀ b o, g.get? b = some o → (hideAll s.heap l).get? b = some o := fun b o e =>
  hideAll_get _ (C.fr.keep b o e) fun q => by rw [hl b q] at e; cases e
/-- a call of a def made at run time -/
theorem callF {x : Str} {p pos : Pos} {e : Expr} {es : List Expr} {f : Addr} {oc : Value} {od : Option Addr} {fd : FuncData} {osl : Array (Option Value)} {pvs : List PV} {Q : Value → Shared → Prop} (C : Cx g s0 L ns vs N s) (F : Fm w mg mb g env L) {fo : Obj} (hf : Kn g N f fo) (hfo : fo = ⟨oc, od, .func fd, osl⟩)
    (hn : PE (FN env g ns vs N) (Kn g N) (.Name x p) (.ref f)) (h : PEs (FN env g ns vs N) (Kn g N) (e :: es) pvs)
    (k : ∀ s' τ, Cx g s0 L ns vs N s' → wpAny (model prog w) A (call (.ref f) (vals pvs τ)) Q E s') :
    wpAny (model prog w) A (eval (.Call (.Name x p) (e :: es) [] pos) env) Q E s := by
  subst hfo
  refine callE (evR C F hn fun s1 C1 => PySem.W.callWith_F (first := []) ⟨oc, od, fd, osl, hf.get C1⟩ (evPs F h C1 fun s' τ C' => ⟨⟨oc, od, fd, osl, hf.get C'⟩, k s' τ C'⟩) ?_ ?_)
  · cases h with | cons _ _ hs => rw [hs]
  · cases h with | cons _ h _ => exact plain_any h _ _
/-- what a call hands on -/
theorem cal {f : Value} {args : List Value} {Q : Value → Shared → Prop} (h : ∀ R : Result → Shared → Prop, (∀ v s', Q v s' → R (.ok (.ret v)) s') → codeAny (model prog w) A (.call f ⟨args, []⟩) R s) : wpAny (model prog w) A (call f args) Q E s :=
  wpAny_call (h _ fun _ _ q => q)
theorem asC {x : Str} {e : Expr} {px p : Pos} {rest : List Stmt} {Q : Flow → Shared → Prop} (_ : Cx g s0 L ns vs N s) (F : Fm w mg mb g env L) (hk : env.kindOf x = some .cell) {c : Addr} (hx : IsCel env x c)
    (k : wpAny (model prog w) A (eval e env) (fun v s' => ∃ vs N j o v0, Cx g s0 L ns vs N s' ∧ N[j]? = some (c, o) ∧ o.data = .cell v0 ∧ ∀ s'' o', o'.data = .cell (some v) → Cx g s0 L ns vs (N.set j (c, o')) s'' → wpAny (model prog w) A (execs rest env) Q E s'') E s)
    (hs : swapsWith e (some (.Name x px)) p.line env = pure false) : wpAny (model prog w) A (execs (.Assign [.Name x px] e p :: rest) env) Q E s :=
  wpAny_execs_cons (wpAny_Assign_Name (wpAny_mono k (fun v s' ⟨_, _, _, _, _, C, hj, hd, k⟩ => stC C F hk hx hj hd k) fun _ _ e => e) hs)
/-- a call that stands as a statement and gives None -/
theorem exS {e : Expr} {p : Pos} {rest : List Stmt} {Q : Flow → Shared → Prop} (h : wpAny (model prog w) A (eval e env) (fun v s' => v = .none ∧ wpAny (model prog w) A (execs rest env) Q E s') E s) (hi : interactive env = false) (hs : swapsWith e none p.line env = pure false) :
    wpAny (model prog w) A (execs (.Expr e p :: rest) env) Q E s :=
  wpAny_execs_cons (wpAny_Expr (wpAny_mono h (fun v s' ⟨hv, h⟩ => by subst hv; exact h) fun _ _ e => e) hi hs)
/-- if x: of an int -/
theorem ifI {e : Expr} {p : Pos} {x : Int} {body orelse rest : List Stmt} {Q : Flow → Shared → Prop} (C : Cx g s0 L ns vs N s) (F : Fm w mg mb g env L) (h : PE (FN env g ns vs N) (Kn g N) e (.int x)) (he : isTrue e env (eval e env) = (do let v ← eval e env; standAt e.pos; holding [v] (truthy v))) (P : Shared → Prop)
    (k1 : x ≠ 0 → ∀ s' (T : Flow → Shared → Prop), (∀ s, P s → T .next s) → Cx g s0 L ns vs N s' → wpAny (model prog w) A (execs body env) T E s')
    (k2 : x = 0 → ∀ s' (T : Flow → Shared → Prop), (∀ s, P s → T .next s) → Cx g s0 L ns vs N s' → wpAny (model prog w) A (execs orelse env) T E s')
    (k : ∀ s, P s → wpAny (model prog w) A (execs rest env) Q E s) : wpAny (model prog w) A (execs (.If e body orelse p :: rest) env) Q E s :=
  execsT fun T hT => wpAny_If (PyProof.Rows.isTrue_plain (evI C F h fun s2 t C2 => PyProof.Rows.truthy_int (by
    by_cases hx : x = 0
    · subst hx; exact k2 rfl _ T (fun s hp => hT.nx s (k s hp)) C2
    · rw [bne_iff_ne.mpr hx]; exact k1 hx _ T (fun s hp => hT.nx s (k s hp)) C2)) he)
/-- an object's word is taken apart -/
theorem asObj {h : Heap} {f : Addr} {fo : Obj} {P : Prop} (e : h.get? f = some fo) (k : ∀ fo', fo' = fo → h.get? f = some fo' → P) : P := k fo rfl e
end
theorem ints_app {a b : List Value} {x y : List Int} (h : IntsAre a x) (k : IntsAre b y) : IntsAre (a ++ b) (x ++ y) := by
  induction h with
  | nil => exact k
  | cons _ _ _ ih => exact .cons _ _ ih
theorem ints_set {a : List Value} {x : List Int} (h : IntsAre a x) : ∀ (i : Nat) (y : Int) (t : Tok), IntsAre (a.set i (.int y t)) (x.set i y) := by
  induction h with
  | nil => intro i y t; exact .nil
  | cons _ _ h ih => intro i y t; cases i with
    | zero => exact .cons _ _ h
    | succ i => exact .cons _ _ (ih i y t)
theorem ints_flat (k : Nat) (x : Int) (t : Tok) : IntsAre (List.replicate k [.int x t]).flatten (List.replicate k x) := by
  induction k with
  | zero => exact .nil
  | succ n ih => exact .cons _ _ ih
theorem PE.castI {Nm : Str → Value → Prop} {H : Addr → Obj → Prop} {e : Expr} {a b : Int} (q : a = b) (h : PE Nm H e (.int a)) : PE Nm H e (.int b) := q ▸ h
theorem cells3 {cm : Str → Option Value} {n n' n'' : Str} {c c' c'' : Addr} {cells : List (Addr × Obj)} (x : CellsAre cm [(n, c), (n', c'), (n'', c'')] cells) :
    ∃ o o' o'', cells = [(c, o), (c', o'), (c'', o'')] ∧ o.data = .cell (cm n) ∧ o'.data = .cell (cm n') ∧ o''.data = .cell (cm n'') := by
  cases x with | cons h r => cases r with | cons h' r => cases r with | cons h'' r => cases r; exact ⟨_, _, _, rfl, h, h', h''⟩
theorem hide_ne {h : Heap} {a l : Addr} {o : Obj} {its : Array Value} {k : Nat} (h1 : h.get? a = some o) (h2 : h.get? l = some (listOf its k)) (hd : ∀ v n, o.data ≠ .seq v n) : (hideAll h [l]).get? a = some o :=
  hideAll_get _ h1 fun q => by
    rw [List.mem_singleton.mp q, h2] at h1
    cases h1; exact hd _ _ rfl
theorem codeRec_hide {h : Heap} {l c' : Addr} {q : Str} {its : Array Value} {k : Nat} (x : h.CodeRec (.ref c') q) (hl : h.get? l = some (listOf its k)) : (hideAll h [l]).CodeRec (.ref c') q := by
  obtain ⟨c, o, vs, t, e, ho, hd, hv⟩ := x
  refine ⟨c, o, vs, t, e, hideAll_get _ ho fun q => ?_, hd, hv⟩
  rw [List.mem_singleton.mp q, hl] at ho
  cases ho; cases hd
/-! ## B16 -/
/-! dicts of int keys and int values -/
inductive IV : List (Int × Value) → List (Int × Int) → Prop
  | nil : IV [] []
  | cons {k v : Int} {t : Tok} {r s} : IV r s → IV ((k, .int v t) :: r) ((k, v) :: s)
def stI (ms : List (Int × Int)) (k v : Int) : List (Int × Int) := if ms.any (fun kv => kv.1 = k) then ms.map (fun kv => if kv.1 = k then (kv.1, v) else kv) else ms ++ [(k, v)]
def getI (ms : List (Int × Int)) (k : Int) : Option Int := (ms.find? fun kv => kv.1 = k).map (·.2)
theorem IV.keys {a : List (Int × Value)} {b : List (Int × Int)} (h : IV a b) : a.map (·.1) = b.map (·.1) := by
  induction h with
  | nil => rfl
  | cons _ ih => simp [ih]
theorem IV.length {a : List (Int × Value)} {b : List (Int × Int)} (h : IV a b) : a.length = b.length := by simpa using congrArg List.length h.keys
theorem IV.any {a : List (Int × Value)} {b : List (Int × Int)} (h : IV a b) (k : Int) : a.any (fun kv => kv.1 = k) = b.any (fun kv => kv.1 = k) := by
  induction h with
  | nil => rfl
  | cons _ ih => simp [ih]
theorem IV.app {a a' : List (Int × Value)} {b b' : List (Int × Int)} (h : IV a b) (h' : IV a' b') : IV (a ++ a') (b ++ b') := by
  induction h with
  | nil => exact h'
  | cons _ ih => exact .cons ih
theorem IV.map {a : List (Int × Value)} {b : List (Int × Int)} (h : IV a b) (k v : Int) (t : Tok) : IV (a.map fun kv => if kv.1 = k then (kv.1, .int v t) else kv) (b.map fun kv => if kv.1 = k then (kv.1, v) else kv) := by
  induction h with
  | nil => exact .nil
  | cons _ ih =>
    rw [List.map_cons, List.map_cons]
    split <;> exact .cons ih
theorem IV.st {a : List (Int × Value)} {b : List (Int × Int)} (h : IV a b) (k v : Int) (t : Tok) : IV (stored a k (.int v t)) (stI b k v) := by
  unfold stored stI
  rw [h.any]
  split
  · exact h.map k v t
  · exact h.app (.cons .nil)
theorem IV.val {a : List (Int × Value)} {b : List (Int × Int)} (h : IV a b) (k : Int) : (valueAt a k = none ∧ getI b k = none) ∨ ∃ v t, valueAt a k = some (.int v t) ∧ getI b k = some v := by
  unfold valueAt getI
  induction h with
  | nil => exact .inl ⟨rfl, rfl⟩
  | @cons k' v t r s _ ih =>
    rw [List.find?_cons, List.find?_cons]
    by_cases e : k' = k
    · simp [e]
    · simp only [e, decide_false]; exact ih
theorem IV.at {a : List (Int × Value)} {b : List (Int × Int)} (h : IV a b) : ∀ {i : Nat} {p : Int × Value}, a[i]? = some p → ∃ v t, p.2 = .int v t ∧ b[i]? = some (p.1, v) := by
  induction h with
  | nil => intro i p e; simp at e
  | cons _ ih =>
    intro i p e
    cases i with
    | zero => simp at e; subst e; exact ⟨_, _, rfl, rfl⟩
    | succ i => simpa using ih (by simpa using e)

abbrev itO (d : Addr) (i n ep : Nat) (ok ov : Value) : Obj := { cls := .type "dict_itemiterator", dict := none, data := .fields #[.none, .bool false, .ref d, .int i 0, .int n 0, .int ep 0, ok, ov], slots := #[] }
theorem intKey {prog : Program} {w : World} {k : Int} {key : Value} (h : (intKind prog w).is k key = true) : ∃ t, key = .int k t := by
  cases key <;> simp_all [intKind, Value.isInt]
/-- an object that is a dict is one at every heap that holds it -/
theorem dictAt {prog : Program} {w : World} {kd : Obj} {kvs : List (Int × Value)} (h : kd.IsDictOf (intKind prog w) kvs) : ∃ ep, ∀ (hp : Heap) (d : Addr), hp.get? d = some kd → hp.DictAt (intKind prog w) d kvs ep :=
  let ⟨es, ep, r⟩ := h; ⟨ep, fun hp d e => ⟨kd, es, e, r⟩⟩
theorem dictOf {prog : Program} {w : World} {kd : Obj} {kvs : List (Int × Value)} (h : kd.IsDictOf (intKind prog w) kvs) {hp : Heap} {d : Addr} (e : hp.get? d = some kd) : hp.DictOf (intKind prog w) d kvs := Heap.dictOf_iff.mpr ⟨kd, e, h⟩
section
variable {w : World} {mg mb : Str → Option Value} {prog : Program} {A : Around} {E : Value → Shared → Prop} {g : Heap} {s0 s s' : Shared} {L : Addr} {ns : List Str} {vs : List (Option Value)} {N : List (Addr × Obj)} {env : Env}
theorem Cx.addTo {s1 : Shared} {vs1 : List (Option Value)} {N1 : List (Addr × Obj)} {a : Addr} {o : Obj} (C : Cx g s0 L ns vs N s) (C1 : Cx g s0 L ns vs1 N1 s1) (hN : N1.map (·.1) = N.map (·.1)) (hn : s.heap.get? a = none) (ho : s1.heap.get? a = some o) : Cx g s0 L ns vs1 ((a, o) :: N1) s1 := by
  have n := C.ne hn
  refine ⟨C1.fr, fun p hp => ?_, by rw [List.map_cons, List.nodup_cons, hN]; exact ⟨n.2.2, C.nd⟩, C1.same⟩
  rcases List.mem_cons.mp hp with rfl | hp
  · exact ⟨ho, n.1, n.2.1⟩
  · exact C1.nw p hp
variable {kd : Obj} {kvs : List (Int × Value)} {d : Addr}

/-- the next pair, laid into two names -/
theorem itemsNext {I : Addr} {i ep ix iy : Nat} {ok ov v : Value} {k : Int} {x y : Str} {px py pt : Pos} {x1 : Nat} {X : Prop} {T : Shared → Prop} (hh : A.handled = none) (hE : EnvL env L) (hx : IsLoc env ns x ix) (hy : IsLoc env ns y iy) (hix : ix < vs.length) (hiy : iy < vs.length)
    (C : Cx g s0 L ns vs ((I, itO d i kvs.length ep ok ov) :: N) s) (hd : Kn g N d kd) (hD : ∀ (hp : Heap) (d : Addr), hp.get? d = some kd → hp.DictAt (intKind prog w) d kvs ep) (hi : kvs[i]? = some (k, v))
    (hT : ∀ s' t, Cx g s0 L ns ((vs.set ix (some (.int k t))).set iy (some v)) ((I, itO d (i + 1) kvs.length ep (.int k t) v) :: N) s' → T s') :
    wpAny (model prog w) A (pyNext (.ref I)) (fun r s₁ => match r with
      | none => X
      | some v => wpAny (model prog w) A (letOwnedTupleGo (.Tuple [.Name x px, .Name y py] x1 pt) (.ref I) v) (fun _ s1 => wpAny (model prog w) A (assign (.Tuple [.Name x px, .Name y py] x1 pt) env v) (fun _ s₂ => T s₂) E s1) E s₁) E s := by
  have hI := C.get (.head _)
  have hds := hd.get (C.drop)
  refine wpAny_pyNext_items_item (knd := intKind prog w) hI (hD _ _ hds) hi fun key h₁ hk heo ht hz hk₁ => ?_
  obtain ⟨t, rfl⟩ := intKey hk
  have C1 := C.modAt (s' := { s with heap := h₁ }) (j := 0) rfl ⟨rfl, rfl, rfl⟩ (fun b ob hb e => hk₁ b ob hb e) heo
  dsimp only [List.set] at C1
  have C2 := C.addTo C1 rfl (fresh_size _) ht
  refine wpAny_letOwnedTupleGo_items heo fun h₂ he₂ hs₂ => ?_
  have C3 := C2.chg (i := 1) (tk := s.toks) rfl hs₂ he₂
  dsimp only [List.set] at C3
  exact asTup (its := #[.int k t, v]) hh C3 (.n (.head _)) rfl rfl fun s4 C4 => PyProof.Rows.assignInOrder_cons (PyProof.Rows.assign_Name (stL C4 hE hx hix fun s5 C5 => PyProof.Rows.assignInOrder_cons (PyProof.Rows.assign_Name (stL C5 hE hy (by rw [List.length_set]; exact hiy) fun s6 C6 => PyProof.Rows.assignInOrder_nil (hT _ t C6.drop)))))
theorem itemsEnd {I : Addr} {ep : Nat} {ok ov : Value} {T : Option Value → Shared → Prop} (hh : A.handled = none) (C : Cx g s0 L ns vs ((I, itO d kvs.length kvs.length ep ok ov) :: N) s) (hd : Kn g N d kd) (hD : ∀ (hp : Heap) (d : Addr), hp.get? d = some kd → hp.DictAt (intKind prog w) d kvs ep)
    (hT : ∀ s', Cx g s0 L ns vs N s' → T none s') : wpAny (model prog w) A (pyNext (.ref I)) T E s := by
  refine wpAny_pyNext_items_end (knd := intKind prog w) hh (C.get (.head _)) (hD _ _ (hd.get C.drop)) (by simp) fun h' he => hT _ (C.away fun b ob hb e => he b ob hb e)
/-- d.items() -/
theorem itemsE {o : Expr} {apos pos : Pos} {Q : Value → Shared → Prop} (C : Cx g s0 L ns vs N s) (F : Fm w mg mb g env L) (ho : ∀ {Q : Value → Shared → Prop}, Q (.ref d) s → wpAny (model prog w) A (eval o env) Q E s) (hd : s.heap.get? d = some kd) (hD : kd.IsDictOf (intKind prog w) kvs) (hds : (d == sysModules) = false)
    (hbase : attributeBase o "items" env (eval o env) = eval o env) (hline : (apos.endLine == pos.line) = true)
    (k : ∀ s' v, Cx g s0 L ns vs ((v, { cls := .type "dict_items", data := .fields #[.ref d] }) :: N) s' → Q (.ref v) s') : wpAny (model prog w) A (eval (.Call (.Attribute o "items" apos) [] [] pos) env) Q E s :=
  wpAny_Call_items (knd := intKind prog w) hds (dictOf hD hd) hbase hline (fun Q' q => ho q) (k _ _ (C.push _ rfl))
theorem itemsI {v : Addr} {ep : Nat} {Q : Value → Shared → Prop} (C : Cx g s0 L ns vs ((v, { cls := .type "dict_items", data := .fields #[.ref d] }) :: N) s) (hd : Kn g N d kd) (hD : ∀ (hp : Heap) (d : Addr), hp.get? d = some kd → hp.DictAt (intKind prog w) d kvs ep)
    (k : ∀ s' I, Cx g s0 L ns vs ((I, itO d 0 kvs.length ep .none .none) :: N) s' → Q (.ref I) s') : wpAny (model prog w) A (pyIter (.ref v)) Q E s :=
  wpAny_pyIter_items (knd := intKind prog w) ⟨_, C.get (.head _), rfl, rfl⟩ (hD _ _ (hd.get C.drop)) (k _ _ ((C.push _ rfl).swap.drop))
theorem for_items {I : Addr} {ep ix iy : Nat} {x y : Str} {px py pt : Pos} {x1 : Nat} {body : List Stmt} {Q : Flow → Shared → Prop} {F : Value → Shared → Prop} (hh : A.handled = none) (hE : EnvL env L) (hx : IsLoc env ns x ix) (hy : IsLoc env ns y iy)
    (C : Cx g s0 L ns vs ((I, itO d 0 kvs.length ep .none .none) :: N) s) (hD : ∀ (hp : Heap) (d : Addr), hp.get? d = some kd → hp.DictAt (intKind prog w) d kvs ep)
    (J : Nat → List (Option Value) → List (Addr × Obj) → Prop) (hd : ∀ i vs N, J i vs N → Kn g N d kd ∧ ix < vs.length ∧ iy < vs.length) (h0 : J 0 vs N)
    (turn : ∀ i k v t vs N s o E' T, kvs[i]? = some (k, v) → J i vs N → Cx g s0 L ns ((vs.set ix (some (.int k t))).set iy (some v)) ((I, o) :: N) s → Turn (J (i + 1)) g s0 L ns I o Q T → wpAny (model prog w) A (execs body env) T E' s)
    (done : ∀ vs N s, J kvs.length vs N → Cx g s0 L ns vs N s → Q .next s) :
    codeAny (model prog w) A (.forLoop (.Tuple [.Name x px, .Name y py] x1 pt) (.ref I) body [] env) (fun r s' => match r with | .ok f => Q f s' | .error e => F e s') s := by
  refine codeAny_forLoop_any (fun m s' => ∃ i vs N ok ov, J i vs N ∧ Cx g s0 L ns vs ((I, itO d i kvs.length ep ok ov) :: N) s' ∧ i ≤ kvs.length ∧ m = kvs.length + 1 - i) ?_ (kvs.length + 1) ⟨0, vs, N, _, _, h0, C, Nat.zero_le _, rfl⟩
  rintro m s' ⟨i, vs, N, ok, ov, hJ, C, hi, rfl⟩
  obtain ⟨hk, h1, h2⟩ := hd _ _ _ hJ
  by_cases hlt : i < kvs.length
  · obtain ⟨⟨k, v⟩, hx'⟩ : ∃ p, kvs[i]? = some p := ⟨kvs[i], by simp [hlt]⟩
    refine wpAny_mono (itemsNext (X := False) hh hE hx hy h1 h2 C hk hD hx' fun s2 t C2 => ?_) (fun r s₁ h => by cases r <;> first | exact h | exact h.elim) fun _ _ e => e
    have fin0 : ∀ vs' N' s3, J (i + 1) vs' N' → Cx g s0 L ns vs' ((I, itO d (i + 1) kvs.length ep (.int k t) v) :: N') s3 → ∃ m, m < kvs.length + 1 - i ∧ ∃ i vs N ok ov, J i vs N ∧ Cx g s0 L ns vs ((I, itO d i kvs.length ep ok ov) :: N) s3 ∧ i ≤ kvs.length ∧ m = kvs.length + 1 - i :=
      fun vs' N' s3 hJ' C3 => ⟨kvs.length + 1 - (i + 1), by omega, i + 1, vs', N', _, _, hJ', C3, hlt, rfl⟩
    exact turn i k v t vs N s2 _ _ _ hx' hJ C2 ⟨fin0, fin0, fun _ _ h => h, fun _ h => h⟩
  · have hin : i = kvs.length := by omega
    subst hin
    exact itemsEnd hh C hk hD fun s2 C2 => wpAny_execs_nil (done vs N _ hJ C2)
end
/-! ## B17 -/
section
variable {w : World} {mg mb : Str → Option Value} {prog : Program} {A : Around} {E : Value → Shared → Prop} {g : Heap} {s0 s s' : Shared} {L : Addr} {ns : List Str} {vs : List (Option Value)} {N : List (Addr × Obj)} {env : Env}

theorem go_tupleiter {elts : List Expr} {x1 : Nat} {pos : Pos} {I l T : Addr} {i : Nat} {Q : Unit → Shared → Prop} (hit : s.heap.IsTupleIter I l i) (hQ : Q () s) : wpAny (model prog w) A (letOwnedTupleGo (.Tuple elts x1 pos) (.ref I) (.ref T)) Q E s := by
  obtain ⟨o, ho, hc, hd⟩ := hit
  unfold letOwnedTupleGo
  refine wpAny_bind (wpAny_load ho ?_)
  rw [hc, hd]
  show wpAny _ A (if (["enumerate", "zip", "dict_itemiterator", "dict_reverseitemiterator", "odict_iterator", "itertools.zip_longest", "itertools.pairwise"].contains "tuple_iterator" && (#[.ref l, .int i 0] : Array Value)[0]? == some (rawInt T)) = true then _ else _) Q E s
  rw [if_neg (by
    intro h
    rw [show (["enumerate", "zip", "dict_itemiterator", "dict_reverseitemiterator", "odict_iterator", "itertools.zip_longest", "itertools.pairwise"].contains "tuple_iterator") = false from by decide, Bool.false_and] at h
    cases h)]
  exact wpAny_pure hQ
/-- the next pair of a walk, laid into two names -/
theorem pairNext {I : Addr} {o : Obj} {fp : List Addr} {n i ix iy : Nat} {P : Nat → Value → Prop} {St : Nat → Heap → Prop} {x y : Str} {px py pt : Pos} {x1 : Nat} {X : Prop} {T : Shared → Prop} {Rp : Value → Value → Prop} (hh : A.handled = none) (hE : EnvL env L) (hx : IsLoc env ns x ix) (hy : IsLoc env ns y iy) (hix : ix < vs.length) (hiy : iy < vs.length)
    (W : Walks prog w A I fp [I] n P St) (hob : ∀ i h, St i h → ∃ o, h.get? I = some o) (hgo : ∀ {s : Shared} {T : Addr} {Q : Unit → Shared → Prop}, St (i + 1) s.heap → Q () s → wpAny (model prog w) A (letOwnedTupleGo (.Tuple [.Name x px, .Name y py] x1 pt) (.ref I) (.ref T)) Q E s)
    (C : Cx g s0 L ns vs ((I, o) :: N) s) (hst : St i s.heap) (hi : i < n) (hP : ∀ v, P i v → ∃ t a b, v = .ref t ∧ Kn g N t (tupOf #[a, b]) ∧ Rp a b)
    (hT : ∀ s' o' a b, Rp a b → (∃ h, St (i + 1) h ∧ h.get? I = some o' ∧ ∀ b ob, b ∈ fp → b ≠ I → s.heap.get? b = some ob → h.get? b = some ob) → Cx g s0 L ns ((vs.set ix (some a)).set iy (some b)) ((I, o') :: N) s' → T s') :
    wpAny (model prog w) A (pyNext (.ref I)) (fun r s₁ => match r with
      | none => X
      | some v => wpAny (model prog w) A (letOwnedTupleGo (.Tuple [.Name x px, .Name y py] x1 pt) (.ref I) v) (fun _ s1 => wpAny (model prog w) A (assign (.Tuple [.Name x px, .Name y py] x1 pt) env v) (fun _ s₂ => T s₂) E s1) E s₁) E s := by
  refine W.item i _ _ _ hi hst fun v h₁ tk₁ hPv hst₁ hk₁ => ?_
  obtain ⟨o1, ho1⟩ := hob _ _ hst₁
  have C1 := C.walk (tk := tk₁) hk₁ ho1
  obtain ⟨t, a, b, rfl, ht, hr⟩ := hP v hPv
  refine hgo hst₁ (asTup hh C1 (ht.imp (.tail _) id) rfl rfl fun s4 C4 => PyProof.Rows.assignInOrder_cons (PyProof.Rows.assign_Name (stL C4 hE hx hix fun s5 C5 => PyProof.Rows.assignInOrder_cons (PyProof.Rows.assign_Name (stL C5 hE hy (by rw [List.length_set]; exact hiy) fun s6 C6 => PyProof.Rows.assignInOrder_nil (hT _ o1 a b hr ⟨h₁, hst₁, ho1, fun b ob _ hb e => hk₁ b ob (by simpa using hb) e⟩ C6))))))
theorem for_pairs {I : Addr} {fp : List Addr} {n : Nat} {P : Nat → Value → Prop} {St : Nat → Heap → Prop} {o : Obj} {x y : Str} {ix iy : Nat} {px py pt : Pos} {x1 : Nat} {body : List Stmt} {Q : Flow → Shared → Prop} {F : Value → Shared → Prop} {Rp : Nat → Value → Value → Prop}
    (hh : A.handled = none) (W : Walks prog w A I fp [I] n P St) (hob : ∀ i h, St i h → ∃ o, h.get? I = some o) (hgo : ∀ {i : Nat} {s : Shared} {T : Addr} {Q : Unit → Shared → Prop} {E : Value → Shared → Prop}, St (i + 1) s.heap → Q () s → wpAny (model prog w) A (letOwnedTupleGo (.Tuple [.Name x px, .Name y py] x1 pt) (.ref I) (.ref T)) Q E s)
    (J : Nat → List (Option Value) → List (Addr × Obj) → Prop)
    (hfp : ∀ b ∈ fp, b = I ∨ (∃ ob, g.get? b = some ob) ∨ (∃ ob, ∀ i vs N, J i vs N → (b, ob) ∈ N))
    (C : Cx g s0 L ns vs ((I, o) :: N) s) (hE : EnvL env L) (hx : IsLoc env ns x ix) (hy : IsLoc env ns y iy) (hst : St 0 s.heap) (h0 : J 0 vs N) (hlen : ∀ i vs N, J i vs N → ix < vs.length ∧ iy < vs.length ∧ ∀ v, i < n → P i v → ∃ t a b, v = .ref t ∧ Kn g N t (tupOf #[a, b]) ∧ Rp i a b)
    (turn : ∀ i a b vs N s o E' T, i < n → Rp i a b → J i vs N → Cx g s0 L ns ((vs.set ix (some a)).set iy (some b)) ((I, o) :: N) s → Turn (J (i + 1)) g s0 L ns I o Q T → wpAny (model prog w) A (execs body env) T E' s)
    (done : ∀ vs N s, J n vs N → Cx g s0 L ns vs N s → Q .next s) :
    codeAny (model prog w) A (.forLoop (.Tuple [.Name x px, .Name y py] x1 pt) (.ref I) body [] env) (fun r s' => match r with | .ok f => Q f s' | .error e => F e s') s := by
  refine codeAny_forLoop_any (fun k s' => ∃ i vs N o, J i vs N ∧ Cx g s0 L ns vs ((I, o) :: N) s' ∧ St i s'.heap ∧ i ≤ n ∧ k = n + 1 - i) ?_ (n + 1) ⟨0, vs, N, o, h0, C, hst, Nat.zero_le _, rfl⟩
  rintro k s' ⟨i, vs, N, o, hJ, C, hst, hi, rfl⟩
  obtain ⟨h1, h2, h3⟩ := hlen _ _ _ hJ
  by_cases hlt : i < n
  · refine wpAny_mono (pairNext (X := False) hh hE hx hy h1 h2 W hob hgo C hst hlt (fun v hv => h3 v hlt hv) fun s2 o1 a b hr ⟨h₁, hst₁, ho1, hk₁⟩ C2 => ?_) (fun r s₁ h => by cases r <;> first | exact h | exact h.elim) fun _ _ e => e
    have fin0 : ∀ vs' N' s3, J (i + 1) vs' N' → Cx g s0 L ns vs' ((I, o1) :: N') s3 → ∃ m, m < n + 1 - i ∧ ∃ i vs N o, J i vs N ∧ Cx g s0 L ns vs ((I, o) :: N) s3 ∧ St i s3.heap ∧ i ≤ n ∧ m = n + 1 - i := by
      rintro vs' N' s3 hJ' C3
      refine ⟨n + 1 - (i + 1), by omega, i + 1, vs', N', o1, hJ', C3, ?_, hlt, rfl⟩
      refine W.frame _ _ _ hst₁ fun b hb ob e => ?_
      rcases hfp b hb with rfl | ⟨q, hq⟩ | ⟨q, hq⟩
      · rw [ho1] at e; cases e; exact (C3.nw _ (.head _)).1
      · have e1 := hk₁ b q hb (fun e2 => by rw [e2, (C.nw _ (.head _)).2.2] at hq; cases hq) (C.fr.keep _ _ hq)
        rw [e] at e1; cases e1
        exact C3.fr.keep _ _ hq
      · have hm := C.nw _ (.tail _ (hq _ _ _ hJ))
        have nd := C.nd
        rw [List.map_cons, List.nodup_cons] at nd
        have e1 := hk₁ b q hb (fun e2 => nd.1 (List.mem_map.mpr ⟨_, hq _ _ _ hJ, e2⟩)) hm.1
        rw [e] at e1; cases e1
        exact (C3.nw _ (.tail _ (hq _ _ _ hJ'))).1
    exact turn i a b vs N s2 o1 _ _ hlt hr hJ C2 ⟨fin0, fin0, fun _ _ h => h, fun _ h => h⟩
  · have hin : i = n := by omega
    subst hin
    refine W.done _ _ _ hst fun h₁ tk₁ hk₁ => wpAny_execs_nil ?_
    have k2 : ∀ b ob, b ≠ I → s'.heap.get? b = some ob → h₁.get? b = some ob := fun b ob hb => hk₁ b ob (by simpa using hb)
    exact done vs N _ hJ (C.away k2)
end
/-! ## B18 -/
section
variable {w : World} {mg mb : Str → Option Value} {prog : Program} {A : Around} {E : Value → Shared → Prop} {g : Heap} {s0 s s' : Shared} {L Cc : Addr} {ns : List Str} {vs : List (Option Value)} {N : List (Addr × Obj)} {env cenv : Env}

theorem Kn.tl {a : Addr} {o : Obj} {p : Addr × Obj} (h : Kn g N a o) : Kn g (p :: N) a o := h.imp (.tail _) id
/-- x = [..] on one line: stored before the block's names are let go -/
theorem asLU {x : Str} {elt target iter : Expr} {ifs : List Expr} {scope : Scope} {cpos px p : Pos} {rest : List Stmt} {Q : Flow → Shared → Prop}
    (hs : swapsWith (.ListComp elt [⟨target, iter, ifs, 0⟩] scope cpos) (some (.Name x px)) p.line env = pure true)
    (hcl : (scope.names.all fun p => !(p.2 == .free) || (env.cells.lookup p.1).isSome) = true) (hkind : scope.kind = .function) (hnames : ∀ x ∈ scope.names, x.2 = .local → scope.names.lookup x.1 = some .local)
    (h : wpAny (model prog w) A (eval iter env) (fun x' s₁ => wpAny (model prog w) A (pyIter x') (fun it s₂ => wpAny (model prog w) A (newList []) (fun acc s₃ => wpAny (model prog w) A (newFunctionEnv scope env.globals (clOf (fun x => (env.cells.lookup x).getD 0) scope.names) [] env.qual none .none (some env)) (fun cenv s₄ =>
      codeAny (model prog w) A (.compStart (.ListComp elt [⟨target, iter, ifs, 0⟩] scope cpos) 0 it acc { cenv with scope := relabel scope env }) (compPost (model prog w) A E (some (assign (.Name x px) env)) (fun _ s' => wpAny (model prog w) A (execs rest env) Q E s') acc cenv.locals) s₄) E s₃) E s₂) E s₁) E s)
    (hi : ∀ x, foldedSetIterable iter env x = pure x) :
    wpAny (model prog w) A (execs (.Assign [.Name x px] (.ListComp elt [⟨target, iter, ifs, 0⟩] scope cpos) p :: rest) env) Q E s := by
  refine wpAny_execs_cons ?_
  rw [exec_Assign_Name_used _ _ _ _ hs, arm_evalThenUse_ListComp]
  refine wpAny_bind (wpAny_standAt (wpAny_bind (wpAny_bind (wpAny_mono (wpAny_comprehension_free (use := some (assign (.Name x px) env)) rfl hi (closure_of hcl) hkind hnames h) (fun v s' h' => wpAny_pure (wpAny_pure h')) fun _ _ e => e))))

/-! what a comprehension walks over -/
def KIt (d : Addr) (n ep : Nat) (i : Nat) (o : Obj) : Prop := o.cls = .type "dict_keyiterator" ∧ o.data = .fields #[.ref d, .int i 0, .int n 0, .int ep 0]
theorem feed_keys {I d : Addr} {kd : Obj} {kvs : List (Int × Value)} {ep : Nat} {x : Str} {px : Pos} (hh : A.handled = none) (hE : EnvL cenv Cc) (hx : IsLoc cenv [x] x 0) (hd : g.get? d = some kd) (hD : ∀ (hp : Heap) (d : Addr), hp.get? d = some kd → hp.DictAt (intKind prog w) d kvs ep) (hne : d ≠ I) :
    Feed prog w A (.Name x px) cenv I g s0 Cc [x] kvs.length (fun i vs => ∃ v, (∃ k x, kvs[i]? = some (k, x) ∧ (intKind prog w).is k v = true) ∧ vs = [some v]) (KIt d kvs.length ep) :=
  feed_walk (Walks.dictKeys (knd := intKind prog w) hh I d hne kvs ep) hE hx
    (fun i o vs N s hIt C => ⟨⟨o, (C.nw _ (.head _)).1, hIt.1, hIt.2⟩, hD _ _ (C.fr.keep _ _ hd)⟩)
    (fun i h hst => let ⟨o, h1, h2, h3⟩ := hst.1; ⟨o, h1, h2, h3⟩)
    (fun o h hIt ho hk => ⟨⟨o, ho, hIt.1, hIt.2⟩, hD _ _ (hk _ _ hd)⟩)
    (fun o s E' Q hIt ho hQ => wpAny_pyIter_keyiter (d := d) (i := 0) (n := kvs.length) (ep := ep) ⟨o, ho, hIt.1, hIt.2⟩ hQ)
theorem pyI_dict {d : Addr} {kd : Obj} {kvs : List (Int × Value)} {ep : Nat} {Q : Value → Shared → Prop} (C : Cx g s0 L ns vs N s) (hd : Kn g N d kd) (hD : ∀ (hp : Heap) (d : Addr), hp.get? d = some kd → hp.DictAt (intKind prog w) d kvs ep) (hds : (d == sysModules) = false)
    (h : ∀ s' I o, KIt d kvs.length ep 0 o → Cx g s0 L ns vs ((I, o) :: N) s' → Q (.ref I) s') : wpAny (model prog w) A (pyIter (.ref d)) Q E s :=
  wpAny_pyIter_dict hds (hD _ _ (hd.get C)) (h _ _ _ ⟨rfl, rfl⟩ (C.push _ rfl))
def IIt (d : Addr) (n ep : Nat) (i : Nat) (o : Obj) : Prop := ∃ ok ov, o = itO d i n ep ok ov
theorem feed_items {I d : Addr} {kd : Obj} {kvs : List (Int × Value)} {ep : Nat} {x y : Str} {px py pt : Pos} {x1 : Nat} (hh : A.handled = none) (hE : EnvL cenv Cc) (hx : IsLoc cenv [x, y] x 0) (hy : IsLoc cenv [x, y] y 1) (hd : g.get? d = some kd) (hD : ∀ (hp : Heap) (d : Addr), hp.get? d = some kd → hp.DictAt (intKind prog w) d kvs ep) :
    Feed prog w A (.Tuple [.Name x px, .Name y py] x1 pt) cenv I g s0 Cc [x, y] kvs.length (fun i vs => ∃ k t v, kvs[i]? = some (k, v) ∧ vs = [some (.int k t), some v]) (IIt d kvs.length ep) where
  step := fun i vs N s o E' T hi hIt hl C hT => by
    obtain ⟨ok, ov, rfl⟩ := hIt
    obtain ⟨⟨k, v⟩, hkv⟩ : ∃ p, kvs[i]? = some p := ⟨kvs[i], by simp [hi]⟩
    match vs, hl with
    | [u1, u2], _ =>
      exact itemsNext hh hE hx hy (Nat.le_of_ble_eq_true rfl) (Nat.le_of_ble_eq_true rfl) C (.g hd) hD hkv fun s2 t C2 => hT s2 _ _ ⟨k, t, v, hkv, rfl⟩ rfl ⟨_, _, rfl⟩ C2
  stop := fun vs N s o E' T hIt C hT => by
    obtain ⟨ok, ov, rfl⟩ := hIt
    exact itemsEnd hh C (.g hd) hD hT
  self := fun o s E' Q hIt ho hQ => by
    obtain ⟨ok, ov, rfl⟩ := hIt
    exact PySem.W.kcp_self ho hQ
theorem go_listiter {elts : List Expr} {x1 : Nat} {pos : Pos} {I l T : Addr} {i : Nat} {Q : Unit → Shared → Prop} (hit : s.heap.IsListIter I l i) (hQ : Q () s) : wpAny (model prog w) A (letOwnedTupleGo (.Tuple elts x1 pos) (.ref I) (.ref T)) Q E s := by
  obtain ⟨o, ho, hc, hd⟩ := hit
  unfold letOwnedTupleGo
  refine wpAny_bind (wpAny_load ho ?_)
  rw [hc, hd]
  show wpAny _ A (if (["enumerate", "zip", "dict_itemiterator", "dict_reverseitemiterator", "odict_iterator", "itertools.zip_longest", "itertools.pairwise"].contains "list_iterator" && (#[.ref l, .int i 0] : Array Value)[0]? == some (rawInt T)) = true then _ else _) Q E s
  rw [if_neg (by
    intro h
    rw [show (["enumerate", "zip", "dict_itemiterator", "dict_reverseitemiterator", "odict_iterator", "itertools.zip_longest", "itertools.pairwise"].contains "list_iterator") = false from by decide, Bool.false_and] at h
    cases h)]
  exact wpAny_pure hQ
/-- a list of pairs -/
theorem feed_pairs {I l : Addr} {its : Array Value} {k : Nat} {x y : Str} {px py pt : Pos} {x1 : Nat} {Rp : Nat → Value → Value → Prop} (hh : A.handled = none) (hE : EnvL cenv Cc) (hx : IsLoc cenv [x, y] x 0) (hy : IsLoc cenv [x, y] y 1) (hl : g.get? l = some (listOf its k)) (hne : l ≠ I)
    (hP : ∀ i v, its[i]? = some v → ∃ t a b, v = .ref t ∧ g.get? t = some (tupOf #[a, b]) ∧ Rp i a b) :
    Feed prog w A (.Tuple [.Name x px, .Name y py] x1 pt) cenv I g s0 Cc [x, y] its.size (fun i vs => ∃ a b, Rp i a b ∧ vs = [some a, some b]) (LIt l) where
  step := fun i vs N s o E' T hi hIt hl' C hT => by
    match vs, hl' with
    | [u1, u2], _ =>
      refine pairNext (Rp := Rp i) hh hE hx hy (Nat.le_of_ble_eq_true rfl) (Nat.le_of_ble_eq_true rfl) (Walks.list (prog := prog) (w := w) hh I l hne its) (fun i h st => ⟨_, st.1.choose_spec.1⟩) (fun st q => go_listiter st.1 q) C
        ⟨⟨o, (C.nw _ (.head _)).1, hIt.1, hIt.2⟩, ⟨_, C.fr.keep _ _ hl, rfl, _, rfl⟩⟩ hi (fun v hv => let ⟨t, a, b, e1, e2, e3⟩ := hP i v hv; ⟨t, a, b, e1, .g e2, e3⟩) fun s2 o2 a b hr ⟨h, hst, ho, _⟩ C2 => ?_
      obtain ⟨o3, h1, h2, h3⟩ := hst.1
      rw [ho] at h1; cases h1
      exact hT s2 _ _ ⟨a, b, hr, rfl⟩ rfl ⟨h2, h3⟩ C2
  stop := fun vs N s o E' T hIt C hT => by
    refine (Walks.list (prog := prog) (w := w) hh I l hne its).done _ _ _ ⟨⟨o, (C.nw _ (.head _)).1, hIt.1, hIt.2⟩, ⟨_, C.fr.keep _ _ hl, rfl, _, rfl⟩⟩ fun h' tk hk => hT _ (C.away fun b ob hb => hk b ob (by simpa using hb))
  self := fun o s E' Q hIt ho hQ => wpAny_pyIter_listiter ⟨o, ho, hIt.1, hIt.2⟩ hQ

/-! slices -/
theorem pick3 (items : Array Value) : slicePick items none (some 3) none = (items.toList.take 3).toArray := by
  by_cases h : 3 ≤ items.size
  · exact slicePick_upto items 3 h
  · have e : slicePick items none (some 3) none = slicePick items none (some (items.size : Nat)) none := by
      have q : sliceBounds none (some (3 : Int)) none items.size = sliceBounds none (some ((items.size : Nat) : Int)) none items.size := by
        simp only [sliceBounds, Option.getD_none]
        simp only [show (1 : Int) > 0 by decide, if_true]
        congr 1
        congr 1
        split <;> split <;> omega
      unfold slicePick
      rw [q]
    rw [e, slicePick_upto items items.size (Nat.le_refl _), List.take_of_length_le (by simp), List.take_of_length_le (by simp; omega)]
theorem getItem_tuple4 {t sl : Addr} {a b c d e : Value} {u : Tok} {Q : Value → Shared → Prop} (ht : IsTup s.heap t #[a, b, c, d, e]) (hs : s.heap.IsSliceOf sl .none (.int 4 u) .none)
    (h : Q (.ref s.heap.objs.size) { s with heap := s.heap.push (tupOf #[a, b, c, d]) }) : wpAny (model prog w) A (getItem (.ref t) (.ref sl)) Q E s := by
  obtain ⟨os, hos, hcs, hds⟩ := id hs
  have hTs : s.TypeIs (.ref sl) "slice" := ⟨os, hos, hcs⟩
  unfold getItem
  try with_reducible refine wpAny_holding ?_
  first | refine wpAny_bind (wpAny_pure ?_) | skip
  refine wpAny_bind (wpAny_sequenceKey ht.typeIs (by decide) ?_)
  refine wpAny_bind (wpAny_callSpecial?_slot (name := Str.ofString "__getitem__") ht.typeIs slot_tuple_getitem
    (wpAny_call_entry slot_tuple_getitem ht.typeIs entry_tuple_getitem ?_ (args_tuple_getitem _ _)))
  show wpAny _ _ (Builtin.Tuple.tupleItemsOf (.ref t) >>= _) _ _ s
  refine wpAny_bind (tupleItemsOf_ ht ?_)
  refine wpAny_bind (wpAny_typeOf hTs ?_)
  rw [if_pos (by decide)]
  have ap : ∀ {Q : Int × Int × Nat → Shared → Prop} {A : Around} {E : Value → Shared → Prop}, Q ((0 : Int), 1, 4) s → wpAny (model prog w) A (Builtin.Slice.sliceApplied (.ref sl) (pure (5 : Int))) Q E s := fun {Q A E} h => by
    unfold Builtin.Slice.sliceApplied Builtin.Slice.sliceFields
    refine wpAny_bind (wpAny_bind (wpAny_field hos hds (x := .none) rfl (wpAny_bind (wpAny_field hos hds (x := .int 4 u) rfl (wpAny_bind (wpAny_field hos hds (x := .none) rfl (wpAny_pure ?_)))))))
    refine wpAny_bind (slicePart_none ?_)
    show wpAny _ _ (if ((1 : Int) == 0) = true then _ else _) _ _ s
    rw [if_neg (by decide)]
    refine wpAny_bind (slicePart_none (wpAny_bind (slicePart_int (wpAny_bind (wpAny_pure ?_)))))
    exact wpAny_pure h
  refine wpAny_bind (ap ?_)
  show wpAny _ _ (if ((0 : Int) == 0 && (1 : Int) == 1 && 4 == 5) = true then _ else _) _ _ s
  rw [if_neg (by decide)]
  have hz : sizeOk (.seq #[a, b, c, d]) := Nat.le_of_ble_eq_true rfl
  first
    | exact wpAny_bind (m := Builtin.Tuple.tupleExact _) (wpAny_newObj_type (wpAny_pure ⟨_, rfl, wpAny_pure h⟩) hz)
    | exact wpAny_bind (m := Builtin.Tuple.tupleExact _) (wpAny_newObj_type (wpAny_bind (wpAny_pure (wpAny_pure ⟨_, rfl, wpAny_pure h⟩))) hz)
    | exact wpAny_bind (wpAny_bind (m := Builtin.Tuple.tupleExact _) (wpAny_newObj_type (wpAny_pure (wpAny_pure ⟨_, rfl, wpAny_pure h⟩)) hz))
    | exact wpAny_bind (wpAny_bind (m := Builtin.Tuple.tupleExact _) (wpAny_newObj_type (wpAny_pure ⟨_, rfl, wpAny_pure h⟩) hz))
/-- t[:4] of a tuple of five -/
theorem sl4 {o : Expr} {k : Nat} {p1 p2 pos : Pos} {t : Addr} {a b c d e : Value} {Q : Value → Shared → Prop} (C : Cx g s0 L ns vs N s) (F : Fm w mg mb g env L) (ho : PE (FN env g ns vs N) (Kn g N) o (.ref t)) (ht : Kn g N t (tupOf #[a, b, c, d, e]))
    (k1 : ∀ s' r, Cx g s0 L ns vs ((r, tupOf #[a, b, c, d]) :: N) s' → Q (.ref r) s') (hg : ∀ o' r, letTemporaryGo o o' r = pure ()) :
    wpAny (model prog w) A (eval (.Subscript o (.Slice none (some (.Constant (.int 4) k p1)) none p2) pos) env) Q E s := by
  refine wpAny_Subscript_Slice (T := "tuple") slot_tuple_getitem.lookup (evR C F ho fun s1 C1 => wpAny_Slice (wpAny_evalPart_none (wpAny_evalPart_some (cInt C1 fun s2 u C2 => wpAny_evalPart_none ?_)))) hg
  have C3 := C2.push { cls := .type "slice", data := .fields #[.none, .int 4 u, .none] } rfl
  have ht3 : IsTup { s2 with heap := s2.heap.push { cls := .type "slice", data := .fields #[.none, .int 4 u, .none] } }.heap t #[a, b, c, d, e] := ⟨_, ht.tl.get C3, rfl, 0, rfl⟩
  exact ⟨ht3.typeIs, getItem_tuple4 ht3 (Heap.IsSliceOf.new ..) (k1 _ _ ((C3.push _ rfl).swap.drop))⟩
/-! pairs of ints -/
def PairsAt (h : Heap) (kits : Array Value) (ks : List (Int × Int)) : Prop := kits.size = ks.length ∧ ∀ (i : Nat) (p : Int × Int), ks[i]? = some p → ∃ (t : Addr) (tk td : Tok), kits[i]? = some (Value.ref t) ∧ h.get? t = some (tupOf #[Value.int p.1 tk, Value.int p.2 td])
theorem PairsAt.keeps {h h' : Heap} {kits : Array Value} {ks : List (Int × Int)} (p : PairsAt h kits ks) (k : ∀ b o, h.get? b = some o → h'.get? b = some o) : PairsAt h' kits ks :=
  ⟨p.1, fun i q hq => let ⟨t, tk, td, a, b⟩ := p.2 i q hq; ⟨t, tk, td, a, k _ _ b⟩⟩
/-- pairs that a ledger holds -/
def PairsIn (N : List (Addr × Obj)) (kits : List Value) (ks : List (Int × Int)) : Prop := kits.length = ks.length ∧ ∀ (i : Nat) (p : Int × Int), ks[i]? = some p → ∃ (t : Addr) (tk td : Tok), kits[i]? = some (Value.ref t) ∧ (t, tupOf #[Value.int p.1 tk, Value.int p.2 td]) ∈ N
theorem PairsIn.mono {N' : List (Addr × Obj)} {kits : List Value} {ks : List (Int × Int)} (p : PairsIn N kits ks) (h : ∀ x ∈ N, x ∈ N') : PairsIn N' kits ks :=
  ⟨p.1, fun i q hq => let ⟨t, tk, td, a, b⟩ := p.2 i q hq; ⟨t, tk, td, a, h _ b⟩⟩
theorem PairsIn.at_ {h : Heap} {kits : List Value} {ks : List (Int × Int)} (p : PairsIn N kits ks) (k : ∀ a o, (a, o) ∈ N → h.get? a = some o) : PairsAt h kits.toArray ks :=
  ⟨by simpa using p.1, fun i q hq => let ⟨t, tk, td, a, b⟩ := p.2 i q hq; ⟨t, tk, td, by simpa using a, k _ _ b⟩⟩
def pairD (p : Int × Int) : PyData := .tuple [.int p.1, .int p.2]
theorem PairsAt.reads {h : Heap} : ∀ {kits : List Value} {ks : List (Int × Int)}, kits.length = ks.length → (∀ (i : Nat) (p : Int × Int), ks[i]? = some p → ∃ (t : Addr) (tk td : Tok), kits[i]? = some (Value.ref t) ∧ h.get? t = some (tupOf #[Value.int p.1 tk, Value.int p.2 td])) →
    ∃ as, ReadsAll h kits (ks.map pairD) as
  | [], [], _, _ => ⟨_, .nil⟩
  | v :: r, p :: ps, hl, hp => by
    obtain ⟨as, ih⟩ := PairsAt.reads (kits := r) (ks := ps) (by simpa using hl) fun i q hq => by simpa using hp (i + 1) q (by simpa using hq)
    obtain ⟨t, tk, td, h1, h2⟩ := hp 0 p rfl
    cases (show v = .ref t by simpa using h1)
    exact ⟨_, .cons (reads_tuple_at h2 rfl rfl (.cons (.int _ _) (.cons (.int _ _) .nil))) ih⟩
  | [], _ :: _, hl, _ => by simp at hl
  | _ :: _, [], hl, _ => by simp at hl
theorem pairs_lay : ∀ ks : List (Int × Int), PyData.canLayAll0 (ks.map pairD) = true ∧ PyData.depthAll (ks.map pairD) ≤ 1
  | [] => ⟨by simp [PyData.canLayAll0], by simp [PyData.depthAll]⟩
  | p :: ps => by
    have ih := pairs_lay ps
    refine ⟨by simp [PyData.canLayAll0, PyData.canLay0, pairD, ih.1], ?_⟩
    have := ih.2
    simp only [List.map_cons, PyData.depthAll, pairD, PyData.depth]
    exact Nat.max_le.mpr ⟨by simp, this⟩
theorem pairs_shaped (ks : List (Int × Int)) : SeqAt.shaped (.list (ks.map pairD)) = true := by
  have := pairs_lay ks
  simp only [SeqAt.shaped, PyData.canLay0, this.1, Bool.true_and, PyData.depth]
  exact decide_eq_true (by omega)
/-- two lists of pairs that are the same -/
theorem nePairs {a b : Addr} {xs ys : List Value} {k1 k2 : Nat} {ks : List (Int × Int)} {Q : Value → Shared → Prop} (ha : s.heap.get? a = some (listOf xs.toArray k1)) (hb : s.heap.get? b = some (listOf ys.toArray k2)) (h1 : PairsAt s.heap xs.toArray ks) (h2 : PairsAt s.heap ys.toArray ks) (hu : A.units + 64 < cLine)
    (h : Q (.bool false) s) : wpAny (model prog w) A (compareOp .NotEq (.ref a) (.ref b)) Q E s := by
  obtain ⟨as, r1⟩ := PairsAt.reads (kits := xs) (by simpa using h1.1) fun i p hp => by simpa using h1.2 i p hp
  obtain ⟨bs, r2⟩ := PairsAt.reads (kits := ys) (by simpa using h2.1) fun i p hp => by simpa using h2.2 i p hp
  refine ne_dataH (reads_list_at ha rfl rfl r1) (reads_list_at hb rfl rfl r2) (pairs_shaped ks) (pairs_shaped ks) hu ?_
  have e : PyData.eqv (.list (ks.map pairD)) (.list (ks.map pairD)) = true := by
    simp only [PyData.eqv]
    exact SeqAt.eqvAll_refl _ (pairs_lay ks).1
  rw [e]; exact h
/-- two tuples of four ints that are the same -/
theorem ne4 {t u : Addr} {a b c d : Int} {t1 t2 t3 t4 u1 u2 u3 u4 : Tok} {Q : Value → Shared → Prop} (ht : s.heap.get? t = some (tupOf #[.int a t1, .int b t2, .int c t3, .int d t4])) (hu : s.heap.get? u = some (tupOf #[.int a u1, .int b u2, .int c u3, .int d u4])) (hr : A.units + 64 < cLine)
    (h : Q (.bool false) s) : wpAny (model prog w) A (compareOp .NotEq (.ref t) (.ref u)) Q E s := by
  refine ne_dataH (reads_tuple_at ht rfl rfl (.cons (.int _ _) (.cons (.int _ _) (.cons (.int _ _) (.cons (.int _ _) .nil))))) (reads_tuple_at hu rfl rfl (.cons (.int _ _) (.cons (.int _ _) (.cons (.int _ _) (.cons (.int _ _) .nil))))) (by simp [SeqAt.shaped, PyData.canLay0, PyData.canLayAll0, PyData.depth, PyData.depthAll]) (by simp [SeqAt.shaped, PyData.canLay0, PyData.canLayAll0, PyData.depth, PyData.depthAll]) hr ?_
  have e : (!PyData.eqv (.tuple [.int a, .int b, .int c, .int d]) (.tuple [.int a, .int b, .int c, .int d])) = false := by simp [PyData.eqv, PyData.eqvAll]
  rw [e]; exact h
/-- several new objects at once -/
theorem Cx.addMany {T : List (Addr × Obj)} (C : Cx g s0 L ns vs N s) (hn : ∀ p ∈ T, s.heap.get? p.1 = none) (nd : (T.map (·.1)).Nodup) (u : Up s s') (ho : ∀ p ∈ T, s'.heap.get? p.1 = some p.2) : Cx g s0 L ns vs (T ++ N) s' := by
  have C' := C.up u
  refine ⟨C'.fr, fun p hp => ?_, ?_, C'.same⟩
  · rcases List.mem_append.mp hp with hp | hp
    · exact ⟨ho p hp, (C.ne (hn p hp)).1, (C.ne (hn p hp)).2.1⟩
    · exact C'.nw p hp
  · rw [List.map_append, List.nodup_append]
    refine ⟨nd, C.nd, fun a ha b hb e => ?_⟩
    obtain ⟨p, hp, rfl⟩ := List.mem_map.mp ha
    exact (C.ne (hn p hp)).2.2 (e ▸ hb)
/-- list(d.items()) -/
theorem litems {v d : Addr} {kd : Obj} {kvs : List (Int × Value)} {ms : List (Int × Int)} {ep : Nat} {Q : Value → Shared → Prop} (hh : A.handled = none) (C : Cx g s0 L ns vs ((v, { cls := .type "dict_items", data := .fields #[.ref d] }) :: N) s) (hd : Kn g N d kd) (hD : ∀ (hp : Heap) (d : Addr), hp.get? d = some kd → hp.DictAt (intKind prog w) d kvs ep) (hV : IV kvs ms) (hz : ms.length ≤ sizeLine)
    (k : ∀ s' B vl c T, PairsIn T vl ms → Cx g s0 L ns vs ((B, listOf vl.toArray c) :: (T ++ N)) s' → Q (.ref B) s') : wpAny (model prog w) A (call (.type "list") [.ref v]) Q E s := by
  refine kdx_call (knd := intKind prog w) (kvs := kvs) hh ⟨_, C.get (.head _), rfl, rfl⟩ (hD _ _ (hd.get C.drop)) (by rw [hV.length]; exact hz) fun h' tk acc c as hk hB hl hG ha => ?_
  obtain ⟨T, hT⟩ : ∃ T : List (Addr × Obj), T = as.map fun a => (a, (h'.get? a).getD (tupOf #[])) := ⟨_, rfl⟩
  have key : ∀ (i : Nat) (p : Int × Int), ms[i]? = some p → ∃ t tk td, (as.map Value.ref)[i]? = some (Value.ref t) ∧ (t, tupOf #[Value.int p.1 tk, Value.int p.2 td]) ∈ T ∧ h'.get? t = some (tupOf #[Value.int p.1 tk, Value.int p.2 td]) := fun i p hp => by
    have hi : i < as.length := by rw [hl, hV.length]; exact (List.getElem?_eq_some_iff.mp hp).1
    obtain ⟨key, k0, x, e1, e2, e3⟩ := hG.pairs i as[i] (List.getElem?_eq_getElem hi)
    obtain ⟨y, ty, e4, e5⟩ := hV.at e1
    rw [hp] at e5; cases e5
    obtain ⟨t, rfl⟩ := intKey e2
    cases e4
    refine ⟨as[i], t, ty, by simp [hi], ?_, e3⟩
    rw [hT]
    exact List.mem_map.mpr ⟨as[i], List.getElem_mem hi, by rw [e3]; rfl⟩
  have ab : ∀ a ∈ as, s.heap.get? a = none := fun a ha => Heap.get?_none_of_le (Nat.le_of_lt (hG.above a ha))
  have C1 := C.addMany (T := (s.heap.objs.size, listOf acc c) :: T) (s' := { s with heap := h', toks := tk }) (fun p hp => ?_) ?_ ⟨⟨rfl, rfl, rfl⟩, hk⟩ (fun p hp => ?_)
  · have e : acc = (as.map Value.ref).toArray := by rw [← ha]
    rw [e] at C1
    refine k _ _ _ _ T ⟨by rw [List.length_map, hl, hV.length], fun i p hp => let ⟨t, tk, td, a, b, _⟩ := key i p hp; ⟨t, tk, td, a, b⟩⟩ (C1.sub (.cons₂ _ (List.Sublist.append (List.Sublist.refl _) (List.sublist_cons_self _ _))))
  · rcases List.mem_cons.mp hp with rfl | hp
    · exact fresh_size _
    · rw [hT] at hp
      obtain ⟨a, ha, rfl⟩ := List.mem_map.mp hp
      exact ab a ha
  · rw [List.map_cons, List.nodup_cons, hT, List.map_map]
    refine ⟨fun hm => ?_, ?_⟩
    · obtain ⟨a, ha, e⟩ := List.mem_map.mp hm
      have := hG.above a ha
      rw [show a = s.heap.objs.size from e] at this
      exact Nat.lt_irrefl _ this
    · have : as.map ((fun p : Addr × Obj => p.1) ∘ fun a => (a, (h'.get? a).getD (tupOf #[]))) = as := by rw [show ((fun p : Addr × Obj => p.1) ∘ fun a => (a, (h'.get? a).getD (tupOf #[]))) = id from rfl, List.map_id]
      rw [this]
      exact hG.rise.imp fun h => Nat.ne_of_lt h
  · rcases List.mem_cons.mp hp with rfl | hp
    · exact hB
    · rw [hT] at hp
      obtain ⟨a, ha, rfl⟩ := List.mem_map.mp hp
      obtain ⟨i, hi, rfl⟩ := List.getElem_of_mem ha
      obtain ⟨key, k0, x, e1, e2, e3⟩ := hG.pairs i as[i] (List.getElem?_eq_getElem hi)
      rw [show (h'.get? as[i]).getD (tupOf #[]) = tupOf #[key, x] from by rw [e3]; rfl]
      exact e3
end
/-! ## B19 -/
section
variable {w : World} {mg mb : Str → Option Value} {prog : Program} {A : Around} {E : Value → Shared → Prop} {g : Heap} {s0 s s' : Shared} {L Cc : Addr} {ns : List Str} {vs : List (Option Value)} {N : List (Addr × Obj)} {env cenv : Env}

/-- l.count(e) -/
theorem cntE {o e : Expr} {apos pos : Pos} {l : Addr} {its : Array Value} {k : Nat} {ls : List Int} {f : Int} {Q : Value → Shared → Prop} (C : Cx g s0 L ns vs N s) (F : Fm w mg mb g env L) (ho : PE (FN env g ns vs N) (Kn g N) o (.ref l)) (he : PE (FN env g ns vs N) (Kn g N) e (.int f)) (hl : Kn g N l (listOf its k)) (hI : IntsAre its.toList ls)
    (hbase : attributeBase o (Str.ofString "count") env (eval o env) = eval o env) (hs : starEach [e] env = [(false, eval e env)]) (hline : (apos.endLine == pos.line) = true)
    (h : ∀ s' t, Cx g s0 L ns vs N s' → Q (.int (ls.count f : Nat) t) s') :
    wpAny (model prog w) A (eval (.Call (.Attribute o (Str.ofString "count") apos) [e] [] pos) env) Q E s :=
  wpAny_Call_method hbase (by rw [hs]; rfl) hline PySem.F.plainAttrs_list PySem.F.slot_list_count PySem.F.type_list_count (evR C F ho fun s2 C2 => ⟨⟨_, hl.get C2, rfl⟩, (fun a e => by cases e; exact ⟨_, hl.get C2, rfl⟩),
    PyProof.Rows.callWith_method1 (splC (evI C2 F he fun s3 t C3 => spl0 (count_list_ints (vs := its.toList) ⟨_, hl.get C3, rfl, k, by simp⟩ hI (h _ _ (C3.toks _)))) (by rw [hs]; rfl)) (by rw [hs]; rfl) (by rfl)⟩)
/-- d.items(), d a plain expression's value -/
theorem itemsPE {o : Expr} {apos pos : Pos} {d : Addr} {kd : Obj} {kvs : List (Int × Value)} {Q : Value → Shared → Prop} (C : Cx g s0 L ns vs N s) (F : Fm w mg mb g env L) (ho : PE (FN env g ns vs N) (Kn g N) o (.ref d)) (hd : Kn g N d kd) (hD : kd.IsDictOf (intKind prog w) kvs) (hds : (d == sysModules) = false)
    (hbase : attributeBase o (Str.ofString "items") env (eval o env) = eval o env) (hline : (apos.endLine == pos.line) = true)
    (k : ∀ s' v, Cx g s0 L ns vs ((v, { cls := .type "dict_items", data := .fields #[.ref d] }) :: N) s' → Q (.ref v) s') : wpAny (model prog w) A (eval (.Call (.Attribute o (Str.ofString "items") apos) [] [] pos) env) Q E s := by
  refine wpAny_Call_method (T := "dict") (id := "dict.items") hbase rfl hline PySem.F.plainAttrs_dict PySem.F.slot_dict_items PySem.F.type_dict_items (evR C F ho fun s1 C1 => ?_)
  have hm := dictOf hD (hd.get C1)
  refine ⟨hm.typeIs, hm.mapOf.noDict, ?_⟩
  show wpAny _ _ (callWith pos (.builtin "dict.items") [.ref d] [] []) Q E s1
  exact method_meetsIn PySem.F.slot_dict_items PySem.F.entry_dict_items rfl (PySem.evalArgs_none ⟨rfl, hm.typeIs, PySem.F.args_dict_items_1 _, _, meets_dict_items (intKind prog w) d hds, ⟨kvs, hm⟩, k _ _ (C1.push _ rfl)⟩)
/-- a method of an own class's -/
theorem methE {o e : Expr} {es : List Expr} {name : Str} {apos pos : Pos} {x dx c f : Addr} {esd : List DictEntry} {n : Nat} {pvs : List PV} {Q : Value → Shared → Prop} (C : Cx g s0 L ns vs N s) (F : Fm w mg mb g env L) (ho : PE (FN env g ns vs N) (Kn g N) o (.ref x)) (hx : Kn g N x (instObj c dx)) (hd : Kn g N dx (PySem.W.dictOf esd n))
    (h1 : plainGet (KF w) c name = true) (h2 : findIn (KF w) (.ref c) name = some (some (.ref f))) (h3 : isFn (KF w) (.ref f) = true) (h4 : getL name esd = some none) (h5 : keepIn (KF w) (.ref f) = true)
    (h : PEs (FN env g ns vs N) (Kn g N) (e :: es) pvs) {pl : Sem Bool}
    (heq : eval (.Call (.Attribute o name apos) (e :: es) [] pos) env = (do
      let ov ← eval o env
      standAt apos.atName
      let __x ← holding [ov] (getMethod ov name pl)
      match __x with
      | (f, first) => callWith pos f first (backTo pos (starEach (e :: es) env)) []))
    (k : ∀ s' τ, Cx g s0 L ns vs N s' → wpAny (model prog w) A (call (.ref f) (.ref x :: vals pvs τ)) Q E s') :
    wpAny (model prog w) A (eval (.Call (.Attribute o name apos) (e :: es) [] pos) env) Q E s := by
  refine MethodCall_ (pl := pl) (evR C F ho fun s1 C1 => method_inst C1.fr F.W.K (inst C1 hx hd) h1 h2 h3 h4 (callWith_K (h₀ := g) F.W.K h5 (evPs F h C1 fun s' τ C' => ⟨(C'.wd F.W).K, k s' τ C'⟩) ?_ ?_)) heq
  · cases h with | cons _ _ hs => rw [hs]
  · cases h with | cons _ h _ => exact plain_any h _ _
/-- the making of an own class's object -/
theorem clsE {c fI : Addr} {v : Value} {Q : Value → Shared → Prop} (C : Cx g s0 L ns vs N s) (F : Fm w mg mb g env L) (h1 : makesIn (KF w) c = true) (h2 : findIn (KF w) (.ref c) "__init__" = some (some (.ref fI))) (h3 : isFn (KF w) (.ref fI) = true)
    (k : ∀ x dx s1 (R : Result → Shared → Prop), x ≠ dx → Cx g s0 L ns vs ((dx, PySem.W.dictOf [] 0) :: (x, instObj c dx) :: N) s1 → (∀ s2, Q (.ref x) s2 → R (.ok (.ret .none)) s2) →
      codeAny (model prog w) (A.under (.builtin "type.__call__" ⟨.ref c :: [v], []⟩)) (.call (.ref fI) ⟨[.ref x, v], []⟩) R s1) :
    wpAny (model prog w) A (call (.ref c) [v]) Q E s := by
  refine call_cls C.fr F.W.K C.nw h1 h2 h3 fun x dx h' F' N' l1 l2 => ?_
  refine k x dx _ _ (Nat.ne_of_gt l2) (Cx.swap ⟨F', N', ?_, ⟨C.same.gens, C.same.drawn, C.same.os⟩⟩) fun s2 q => ⟨rfl, q⟩
  rw [List.map_cons, List.map_cons, List.nodup_cons, List.nodup_cons]
  refine ⟨fun hm => ?_, fun hm => ?_, C.nd⟩
  · rcases List.mem_cons.mp hm with e | hm
    · exact Nat.ne_of_gt l2 e
    · obtain ⟨p, hp, e⟩ := List.mem_map.mp hm
      have := l1 p hp
      rw [show p.1 = x from e] at this
      exact Nat.lt_asymm this l2
  · obtain ⟨p, hp, e⟩ := List.mem_map.mp hm
    have := l1 p hp
    rw [show p.1 = dx from e] at this
    exact Nat.lt_irrefl _ this
/-- sum(l) -/
theorem sumE {l : Addr} {items : List Value} {xs : List Int} {Q : Value → Shared → Prop} (hh : A.handled = none) (C : Cx g s0 L ns vs N s) (hl : g.IsList l items.toArray) (hI : IntsAre items xs) (k : ∀ s' t, Cx g s0 L ns vs N s' → Q (.int xs.sum t) s') :
    wpAny (model prog w) A (call (.builtin "sum") [.ref l]) Q E s := by
  obtain ⟨o, ho, r⟩ := hl
  have hl' : s.heap.IsList l items.toArray := ⟨o, C.fr.keep _ _ ho, r⟩
  have hn := hI.numsOf
  obtain ⟨ys, hy⟩ := hI.allInts.items
  rw [hy] at hl'
  refine sum_intListG hh hl' fun h' tk t' hk => ?_
  have e : preSum (numAt ys) ys.size = xs.sum := by
    rw [preSum_eq, List.take_of_length_le (by simp), ← hn, ← nums_intItems, ← hy]
  rw [e]
  exact k _ _ (C.up (s' := { s with heap := h', toks := tk }) ⟨⟨rfl, rfl, rfl⟩, hk⟩)
/-- l[:3] -/
theorem sl3 {o : Expr} {k : Nat} {p1 p2 pos : Pos} {l : Addr} {items : List Value} {Q : Value → Shared → Prop} (C : Cx g s0 L ns vs N s) (F : Fm w mg mb g env L) (ho : PE (FN env g ns vs N) (Kn g N) o (.ref l)) (hl : g.IsList l items.toArray) (hz : items.length ≤ sizeLine)
    (k1 : ∀ s' r, Cx g s0 L ns vs ((r, listOf (items.take 3).toArray 0) :: N) s' → Q (.ref r) s') (hg : ∀ o' r, letTemporaryGo o o' r = pure ()) :
    wpAny (model prog w) A (eval (.Subscript o (.Slice none (some (.Constant (.int 3) k p1)) none p2) pos) env) Q E s := by
  refine wpAny_Subscript_list_slice (evR C F ho fun s1 C1 => wpAny_evalPart_none (wpAny_evalPart_some (cInt C1 fun s2 u C2 => ?_))) hg
  obtain ⟨o, ho, r⟩ := hl
  refine ⟨l, items.toArray, none, some 3, rfl, ⟨o, C2.fr.keep _ _ ho, r⟩, by simpa using hz, .none, .int _ _, ?_⟩
  rw [pick3]
  have C3 := (C2.push { cls := .type "slice", data := .fields #[.none, .int 3 u, .none] } rfl).push (listOf (items.take 3).toArray 0) rfl
  dsimp only at C3
  rw [Heap.size_push] at C3
  exact k1 _ _ (C3.swap.drop)
end
section
variable {Nm : Str → Value → Prop} {H : Addr → Obj → Prop}
theorem PE.lenX {e p pos a o its k} : Nm (Str.ofString "len") (.builtin "len") → PE Nm H e (.ref a) → H a o → o.cls = .type "list" → o.data = .seq its k → its.size < 2 ^ 63 → starEach [e] default = [(false, eval e default)] →
      PE Nm H (.Call (.Name (Str.ofString "len") p) [e] [] pos) (.int its.size) := by
  intro hn ih hl hc hd hz he
  intro w prog env Inv r
  have hT := r.T
  have hN := r.N
  have hH := r.H
  replace ih := @ih _ _ _ _ r
  intro A E Q s hs hQ
  refine callE (hN _ _ _ _ _ _ _ hn hs ?_)
  rw [starEach_env he]
  refine callWith_builtin1 (ih hs fun s1 t1 h1 => ?_)
  exact PyProof.Rows.len_list ⟨_, hH _ _ _ hl h1, hc, _, hd⟩ (by omega) (hQ _ _ (hT _ _ h1))
end
/-! ## B20 -/
/-! cells as a row of values -/
def CellsL : List Addr → List (Option Value) → List (Addr × Obj) → Prop
  | [], [], [] => True
  | c :: cs, v :: vs, p :: r => p.1 = c ∧ p.2.data = .cell v ∧ CellsL cs vs r
  | _, _, _ => False
theorem CellsL.get : ∀ {cs : List Addr} {cv : List (Option Value)} {CL : List (Addr × Obj)} {i : Nat} {c : Addr} {v : Option Value}, CellsL cs cv CL → cs[i]? = some c → cv[i]? = some v → ∃ o, CL[i]? = some (c, o) ∧ o.data = .cell v
  | c :: cs, v :: vs, p :: r, 0, _, _, h, h1, h2 => by
    cases h1; cases h2
    exact ⟨p.2, by rw [← h.1]; rfl, h.2.1⟩
  | c :: cs, v :: vs, p :: r, i + 1, _, _, h, h1, h2 => by simpa using CellsL.get (i := i) h.2.2 (by simpa using h1) (by simpa using h2)
  | [], _, _, _, _, _, _, h1, _ => by simp at h1
  | _ :: _, [], _, _, _, _, _, _, h2 => by simp at h2
  | _ :: _, _ :: _, [], _, _, _, h, _, _ => h.elim
theorem CellsL.set : ∀ {cs : List Addr} {cv : List (Option Value)} {CL : List (Addr × Obj)} {i : Nat} {c : Addr} {v : Option Value} {o : Obj}, CellsL cs cv CL → cs[i]? = some c → o.data = .cell v → CellsL cs (cv.set i v) (CL.set i (c, o))
  | c :: cs, v :: vs, p :: r, 0, _, _, _, h, h1, h2 => by
    cases h1
    exact ⟨rfl, h2, h.2.2⟩
  | c :: cs, v :: vs, p :: r, i + 1, _, _, _, h, h1, h2 => ⟨h.1, h.2.1, CellsL.set (i := i) h.2.2 (by simpa using h1) h2⟩
  | [], _, _, _, _, _, _, _, h1, _ => by simp at h1
  | _ :: _, [], _, _, _, _, _, h, _, _ => h.elim
  | _ :: _, _ :: _, [], _, _, _, _, h, _, _ => h.elim
theorem CellsL.of {cm : Str → Option Value} {cs : List (Str × Addr)} {CL : List (Addr × Obj)} (h : CellsAre cm cs CL) : CellsL (cs.map (·.2)) (cs.map fun x => cm x.1) CL := by
  induction h with
  | nil => trivial
  | cons hd _ ih => exact ⟨rfl, hd, ih⟩
theorem CellsL.len : ∀ {cs : List Addr} {cv : List (Option Value)} {CL : List (Addr × Obj)}, CellsL cs cv CL → CL.length = cs.length ∧ cv.length = cs.length
  | [], [], [], _ => ⟨rfl, rfl⟩
  | c :: cs, v :: vs, p :: r, h => ⟨congrArg (· + 1) (CellsL.len h.2.2).1, congrArg (· + 1) (CellsL.len h.2.2).2⟩
  | [], _ :: _, _, h => h.elim
  | [], [], _ :: _, h => h.elim
  | _ :: _, [], _, h => h.elim
  | _ :: _, _ :: _, [], h => h.elim
/-- the one list lies in the other -/
structure Sub (X N : List (Addr × Obj)) : Prop where
  h : ∀ p ∈ X, p ∈ N
theorem Sub.l {X R : List (Addr × Obj)} : Sub X (X ++ R) := ⟨fun _ h => List.mem_append_left _ h⟩
theorem Sub.r {X R : List (Addr × Obj)} : Sub R (X ++ R) := ⟨fun _ h => List.mem_append_right _ h⟩
theorem Sub.c {X N : List (Addr × Obj)} {p : Addr × Obj} (h : Sub X N) : Sub X (p :: N) := ⟨fun _ q => .tail _ (h.h _ q)⟩
theorem Kn.s {g : Heap} {X N : List (Addr × Obj)} {a : Addr} {o : Obj} (h : Sub X N) (k : (a, o) ∈ X) : Kn g N a o := .inl (h.h _ k)
theorem Kn.sub {g : Heap} {X N : List (Addr × Obj)} {a : Addr} {o : Obj} (k : Kn g X a o) (h : Sub X N) : Kn g N a o := k.imp (h.h _) id
/-- a cell's name and its place -/
structure LC (env : Env) (cs : List Addr) (x : Str) (i : Nat) : Prop where
  c : ∃ c, cs[i]? = some c ∧ IsCel env x c
  k : env.kindOf x = some .cell
section
variable {w : World} {mg mb : Str → Option Value} {prog : Program} {A : Around} {E : Value → Shared → Prop} {g : Heap} {s0 s s' : Shared} {L Cc : Addr} {ns : List Str} {vs cv : List (Option Value)} {N CL R : List (Addr × Obj)} {env cenv : Env} {cs : List Addr}
theorem FN.cl {x : Str} {i : Nat} {v : Value} (hC : CellsL cs cv CL) (hs : Sub CL N) (h : LC env cs x i) (hv : cv[i]? = some (some v)) : FN env g ns vs N x v := by
  obtain ⟨c, hc, hx⟩ := h.c
  obtain ⟨o, ho, hd⟩ := hC.get hc hv
  exact .cel hx (.n (hs.h _ (List.mem_of_getElem? ho))) hd
theorem CellsL.at_ {x : Str} {i : Nat} {v : Option Value} (hC : CellsL cs cv CL) (h : LC env cs x i) (hv : cv[i]? = some v) : ∃ c o, IsCel env x c ∧ (c, o) ∈ CL ∧ o.data = .cell v := by
  obtain ⟨c, hc, hx⟩ := h.c
  obtain ⟨o, ho, hd⟩ := hC.get hc hv
  exact ⟨c, o, hx, List.mem_of_getElem? ho, hd⟩
theorem Cx.fold {p : Addr × Obj} (C : Cx g s0 L ns vs (p :: (CL ++ R)) s) : Cx g s0 L ns vs (CL ++ (p :: R)) s := C.perm (List.perm_middle.symm)
theorem stCl {x : Str} {i : Nat} {v : Value} {Q : Unit → Shared → Prop} (C : Cx g s0 L ns vs (CL ++ R) s) (F : Fm w mg mb g env L) (h : LC env cs x i) (hC : CellsL cs cv CL)
    (k : ∀ s' CL', CellsL cs (cv.set i (some v)) CL' → Cx g s0 L ns vs (CL' ++ R) s' → Q () s') : wpAny (model prog w) A (storeName env x v) Q E s := by
  obtain ⟨c, hc, hx⟩ := h.c
  have hl := hC.len
  have hi : i < cs.length := (List.getElem?_eq_some_iff.mp hc).1
  obtain ⟨v0, hv0⟩ : ∃ v0, cv[i]? = some v0 := ⟨cv[i], by simp [hl.2, hi]⟩
  obtain ⟨o, ho, hd⟩ := hC.get hc hv0
  have hi' : i < CL.length := by rw [hl.1]; exact hi
  refine stC C F h.k hx (j := i) (by rw [List.getElem?_append_left hi']; exact ho) hd fun s' o' hd' C' => k s' _ (hC.set hc hd') ?_
  rw [List.set_append_left _ _ hi'] at C'
  exact C'
theorem asCl {x : Str} {i : Nat} {e : Expr} {px p : Pos} {rest : List Stmt} {Q : Flow → Shared → Prop} (F : Fm w mg mb g env L) (h : LC env cs x i)
    (k : wpAny (model prog w) A (eval e env) (fun v s' => ∃ vs cv CL R, CellsL cs cv CL ∧ Cx g s0 L ns vs (CL ++ R) s' ∧ ∀ s'' CL', CellsL cs (cv.set i (some v)) CL' → Cx g s0 L ns vs (CL' ++ R) s'' → wpAny (model prog w) A (execs rest env) Q E s'') E s)
    (hs : swapsWith e (some (.Name x px)) p.line env = pure false) : wpAny (model prog w) A (execs (.Assign [.Name x px] e p :: rest) env) Q E s :=
  wpAny_execs_cons (wpAny_Assign_Name (wpAny_mono k (fun v s' ⟨_, _, _, _, hC, C, k⟩ => stCl C F h hC k) fun _ _ e => e) hs)
/-- a plain value, into a cell -/
theorem asClP {x : Str} {i : Nat} {e : Expr} {px p : Pos} {rest : List Stmt} {pv : PV} {Q : Flow → Shared → Prop} (C : Cx g s0 L ns vs (CL ++ R) s) (F : Fm w mg mb g env L) (h : LC env cs x i) (hC : CellsL cs cv CL) (he : PE (FN env g ns vs (CL ++ R)) (Kn g (CL ++ R)) e pv)
    (k : ∀ s' t CL', CellsL cs (cv.set i (some (pv.val t))) CL' → Cx g s0 L ns vs (CL' ++ R) s' → wpAny (model prog w) A (execs rest env) Q E s')
    (hs : swapsWith e (some (.Name x px)) p.line env = pure false) : wpAny (model prog w) A (execs (.Assign [.Name x px] e p :: rest) env) Q E s :=
  wpAny_execs_cons (wpAny_Assign_Name (evP C F he fun s1 t C1 => stCl C1 F h hC fun s2 CL' hC' C2 => k s2 t CL' hC' C2) hs)

/-- a loop over a list whose name is a cell -/
structure TurnC (J : List (Option Value) → List (Option Value) → List (Addr × Obj) → Prop) (g : Heap) (s0 : Shared) (L : Addr) (ns : List Str) (cs : List Addr) (I : Addr) (o : Obj) (Q T : Flow → Shared → Prop) : Prop where
  nx : ∀ vs cv CL R s, J vs cv R → CellsL cs cv CL → Cx g s0 L ns vs (CL ++ ((I, o) :: R)) s → T .next s
  rt : ∀ v s, Q (.ret v) s → T (.ret v) s
theorem it_listC {l : Addr} {its : Array Value} {k : Nat} {x : Str} {ix : Nat} {px : Pos} {body : List Stmt} {Q : Flow → Shared → Prop} {F : Value → Shared → Prop} (hh : A.handled = none) (hE : Fm w mg mb g env L)
    (hC : CellsL cs cv CL) (C : Cx g s0 L ns vs (CL ++ R) s) (hx : LC env cs x ix) (hl : Kn g R l (listOf its k))
    (J : Nat → List (Option Value) → List (Option Value) → List (Addr × Obj) → Prop) (hst : ∀ i vs cv R, J i vs cv R → Kn g R l (listOf its k)) (h0 : J 0 vs cv R)
    (turn : ∀ (i : Nat) v vs cv CL R s I o E' T, i < its.size → its[i]? = some v → J i vs cv R → CellsL cs (cv.set ix (some v)) CL → Cx g s0 L ns vs (CL ++ ((I, o) :: R)) s → TurnC (J (i + 1)) g s0 L ns cs I o Q T → wpAny (model prog w) A (execs body env) T E' s)
    (done : ∀ vs cv CL R s, J its.size vs cv R → CellsL cs cv CL → Cx g s0 L ns vs (CL ++ R) s → Q .next s) :
    wpAny (model prog w) A (pyIter (.ref l)) (fun it s₂ => codeAny (model prog w) A (.forLoop (.Name x px) it body [] env) (fun r s' => match r with | .ok f => Q f s' | .error e => F e s') s₂) E s := by
  have hls : s.heap.get? l = some (listOf its k) := (hl.sub Sub.r).get C
  have hL : s.heap.IsList l its := ⟨_, hls, rfl, _, rfl⟩
  refine wpAny_pyIter_list hL ?_
  have hne : l ≠ s.heap.objs.size := Nat.ne_of_lt (Heap.lt_size hls)
  have W := Walks.list (prog := prog) (w := w) hh s.heap.objs.size l hne its
  obtain ⟨I, hI⟩ : ∃ I, I = s.heap.objs.size := ⟨_, rfl⟩
  have C0 := C.push { cls := .type "list_iterator", data := .fields #[.ref l, .int 0 0] } rfl
  rw [← hI] at W C0 hne ⊢
  have st0 : (s.heap.push { cls := .type "list_iterator", data := .fields #[.ref l, .int 0 0] }).IsListIter I l 0 ∧ (s.heap.push { cls := .type "list_iterator", data := .fields #[.ref l, .int 0 0] }).IsList l its := ⟨⟨_, by rw [hI]; exact Heap.get?_push_size _ rfl, rfl, rfl⟩, hL.push _⟩
  refine codeAny_forLoop (fun m s' => ∃ i vs cv CL R o, J i vs cv R ∧ CellsL cs cv CL ∧ Cx g s0 L ns vs ((I, o) :: (CL ++ R)) s' ∧ (s'.heap.IsListIter I l i ∧ s'.heap.IsList l its) ∧ i ≤ its.size ∧ m = its.size + 1 - i) ?_ (its.size + 1) ⟨0, vs, cv, CL, R, _, h0, hC, C0, st0, Nat.zero_le _, rfl⟩
  rintro m s' ⟨i, vs, cv, CL, R, o, hJ, hC, C, hst', hi, rfl⟩
  by_cases hlt : i < its.size
  · refine W.item i _ _ _ hlt hst' fun v h₁ tk₁ hP hst₁ hk₁ => ?_
    obtain ⟨o1, ho1, _⟩ := id hst₁.1
    have C1 := (C.walk (tk := tk₁) hk₁ ho1).fold
    refine wpAny_assign_Name (stCl C1 hE hx hC fun s2 CL' hC' C2 => ?_)
    refine turn i v vs cv CL' R s2 I o1 _ _ hlt hP hJ hC' C2 ⟨fun vs' cv' CL3 R' s3 hJ' hC3 C3 => ?_, fun _ _ h => h⟩
    have C3 : Cx g s0 L ns vs' ((I, o1) :: (CL3 ++ R')) s3 := C3.perm List.perm_middle
    refine ⟨its.size + 1 - (i + 1), by omega, i + 1, vs', cv', CL3, R', o1, hJ', hC3, C3, ⟨?_, ?_⟩, hlt, rfl⟩
    · obtain ⟨o2, e1, e2⟩ := hst₁.1
      rw [ho1] at e1; cases e1
      exact ⟨o1, C3.get (.head _), e2⟩
    · exact ⟨_, ((hst _ _ _ _ hJ').sub Sub.r).tl.get C3, rfl, _, rfl⟩
  · have hin : i = its.size := by omega
    subst hin
    refine W.done _ _ _ hst' fun h₁ tk₁ hk₁ => wpAny_execs_nil ?_
    exact done vs cv CL R _ hJ hC (C.away fun b ob hb => hk₁ b ob (by simpa using hb))
end
set_option maxRecDepth 100000
set_option maxHeartbeats 4000000
local macro_rules | `(tactic| walk_at "loc") => `(tactic| exact Blk.loc (by assumption) (by rfl) (by rfl) (by decide))
local macro_rules | `(tactic| walk_at "glb") => `(tactic| exact Blk.glb (by assumption) (by rfl) (by decide))
local macro_rules | `(tactic| walk_at "kn") => `(tactic| first | exact Kn.n (by k_mem) | exact Kn.g (by assumption))
local macro_rules | `(tactic| walk_at "fn") => `(tactic| exact FN.loc (by assumption) (by rfl))
local macro_rules | `(tactic| walk_at "pe") => `(tactic| first
  | exact PE.int
  | exact PE.nI (by walk_at "fn")
  | exact PE.nR (by walk_at "fn")
  | exact PE.nS (by walk_at "fn")
  | exact PE.nB (by walk_at "fn")
  | exact PE.str
  | exact PE.bool
  | ((with_reducible show PE _ _ (Expr.BinOp _ _ _ _) _); first
    | exact PE.add (by walk_at "pe") (by walk_at "pe")
    | exact PE.sub (by walk_at "pe") (by walk_at "pe")
    | exact PE.mod (by walk_at "pe") (by walk_at "pe") (by first | assumption | decide | omega)
    | exact PE.div (by walk_at "pe") (by walk_at "pe") (by first | assumption | decide | omega) (by first | assumption | decide | omega)
    | exact PE.mul (by walk_at "pe") (by walk_at "pe") (by first | assumption | decide | omega))
  | ((with_reducible show PE _ _ (Expr.UnaryOp UnaryOp.USub _ _) _); exact PE.neg (by walk_at "pe"))
  | ((with_reducible show PE _ _ (Expr.Compare _ [_] [_] _) _); first | exact PE.cmp (by walk_at "pe") (by walk_at "pe") (by rfl) (by with_unfolding_all rfl) | exact PE.scmp (by walk_at "pe") (by walk_at "pe") (by rfl) (by with_unfolding_all rfl))
  | ((with_reducible show PE _ _ (Expr.Call (Expr.Name (Str.ofString "len") _) [_] [] _) _); first | exact PE.lenL (.len (by assumption)) (by walk_at "pe") (by walk_at "kn") (by first | assumption | omega) (by rfl) | exact PE.lenT (.len (by assumption)) (by walk_at "pe") (by walk_at "kn") (by first | assumption | omega) (by rfl))
  | ((with_reducible show PE _ _ (Expr.Subscript (Expr.Name _ _) _ _) _); exact PE.itI (by walk_at "pe") (by walk_at "kn") (by walk_at "pe") (by first | assumption | omega) (by first | assumption | omega) (by first | assumption | exact ⟨_, by assumption⟩) (by rfl)))
local macro_rules | `(tactic| walk_at "pes") => `(tactic| first | exact PEs.nil | exact PEs.cons (by walk_at "pe") (by walk_at "pes") (by rfl))
/-! ## Pdm -/
/-! digits to a base -/
def digs (B x : Int) : Nat → List Int
  | 0 => []
  | k + 1 => x % B :: digs B (x / B) k
def valB (B : Int) (ds : List Int) : Int := ds.foldr (fun d acc => d + B * acc) 0
theorem digs_len (B : Int) : ∀ (k : Nat) (x : Int), (digs B x k).length = k
  | 0, _ => rfl
  | k + 1, x => by rw [digs, List.length_cons, digs_len B k]
theorem val_digs {B : Int} (hB : 0 < B) : ∀ (k : Nat) (x : Int), 0 ≤ x → x < B ^ k → valB B (digs B x k) = x
  | 0, x, h0, h1 => by rw [Int.pow_zero] at h1; show (0 : Int) = x; omega
  | k + 1, x, h0, h1 => by
    have h2 : x / B < B ^ k := by rw [Int.ediv_lt_iff_lt_mul hB, ← Int.pow_succ]; exact h1
    show x % B + B * valB B (digs B (x / B) k) = x
    rw [val_digs hB k _ (Int.ediv_nonneg h0 (Int.le_of_lt hB)) h2]
    exact Int.emod_add_mul_ediv x B
theorem digs_mem {B : Int} (hB : 0 < B) : ∀ (k : Nat) (x d : Int), d ∈ digs B x k → 0 ≤ d ∧ d < B
  | 0, _, _, h => by cases h
  | k + 1, x, d, h => by
    rcases List.mem_cons.mp h with rfl | h
    · exact ⟨Int.emod_nonneg _ (by omega), Int.emod_lt_of_pos _ hB⟩
    · exact digs_mem hB k _ d h
theorem mod_mul {B C x : Int} (hB : 0 < B) (hC : 0 < C) (hx : 0 ≤ x) : x % (B * C) / B = x / B % C := by
  obtain ⟨n, rfl⟩ := Int.eq_ofNat_of_zero_le hx
  obtain ⟨b, rfl⟩ := Int.eq_ofNat_of_zero_le (Int.le_of_lt hB)
  obtain ⟨c, rfl⟩ := Int.eq_ofNat_of_zero_le (Int.le_of_lt hC)
  have hb : 0 < b := by omega
  have : n % (b * c) / b = n / b % c := by
    rw [Nat.mod_mul, Nat.add_mul_div_left _ _ hb, Nat.div_eq_of_lt (Nat.mod_lt _ hb), Nat.zero_add]
  exact_mod_cast this
theorem digs_add {B : Int} (hB : 0 < B) : ∀ (j k : Nat) (x : Int), 0 ≤ x → digs B x (j + k) = digs B (x % B ^ j) j ++ digs B (x / B ^ j) k
  | 0, k, x, _ => by rw [Nat.zero_add, Int.pow_zero, Int.ediv_one]; rfl
  | j + 1, k, x, hx => by
    have hp : 0 < B ^ j := Int.pow_pos hB
    rw [show j + 1 + k = (j + k) + 1 from by omega, digs, digs, List.cons_append]
    have e1 : x % B ^ (j + 1) % B = x % B := Int.emod_emod_of_dvd x ⟨B ^ j, by rw [Int.pow_succ, Int.mul_comm]⟩
    have e2 : x % B ^ (j + 1) / B = x / B % B ^ j := by rw [Int.pow_succ, Int.mul_comm]; exact mod_mul hB hp hx
    have e3 : x / B ^ (j + 1) = x / B / B ^ j := by rw [Int.pow_succ, Int.mul_comm, Int.ediv_ediv_of_nonneg (Int.le_of_lt hB)]
    rw [e1, e2, e3, digs_add hB j k _ (Int.ediv_nonneg hx (Int.le_of_lt hB))]
theorem val_app (B : Int) (b : List Int) : ∀ a : List Int, valB B (a ++ b) = valB B a + B ^ a.length * valB B b
  | [] => by show valB B b = 0 + B ^ 0 * valB B b; rw [Int.pow_zero]; omega
  | d :: a => by
    show d + B * valB B (a ++ b) = d + B * valB B a + B ^ (a.length + 1) * valB B b
    rw [val_app B b a, Int.mul_add, Int.pow_succ, Int.mul_comm (B ^ a.length) B, Int.mul_assoc]
    omega
theorem xor_low {x : Int} (h : 0 ≤ x) (s : Nat) : Builtin.bitXor x (x / 2 ^ s * 2 ^ s) = x % 2 ^ s := by
  obtain ⟨n, rfl⟩ := Int.eq_ofNat_of_zero_le h
  have e : ((n : Int) / 2 ^ s * 2 ^ s) = ((n / 2 ^ s * 2 ^ s : Nat) : Int) := by simp
  have e2 : n &&& (n / 2 ^ s * 2 ^ s) = n / 2 ^ s * 2 ^ s := by
    apply Nat.eq_of_testBit_eq
    intro i
    rw [Nat.testBit_and, ← Nat.shiftRight_eq_div_pow, ← Nat.shiftLeft_eq, Nat.testBit_shiftLeft, Nat.testBit_shiftRight]
    by_cases hi : s ≤ i
    · simp [hi, Nat.add_sub_cancel' hi]
    · simp [hi]
  have e3 : n ||| (n / 2 ^ s * 2 ^ s) = n := by
    apply Nat.eq_of_testBit_eq
    intro i
    rw [Nat.testBit_or, ← Nat.shiftRight_eq_div_pow, ← Nat.shiftLeft_eq, Nat.testBit_shiftLeft, Nat.testBit_shiftRight]
    by_cases hi : s ≤ i
    · simp [hi, Nat.add_sub_cancel' hi]
    · simp [hi]
  rw [e]
  have e4 : Builtin.bitAnd (n : Int) ((n / 2 ^ s * 2 ^ s : Nat) : Int) = ((n / 2 ^ s * 2 ^ s : Nat) : Int) := by
    unfold Builtin.bitAnd
    rw [decide_eq_true (Int.natCast_nonneg _), decide_eq_true (Int.natCast_nonneg _)]
    show (((n : Int).toNat &&& ((n / 2 ^ s * 2 ^ s : Nat) : Int).toNat : Nat) : Int) = _
    rw [Int.toNat_natCast, Int.toNat_natCast, e2]
  have e5 : ∀ k : Nat, Builtin.bitNot (Builtin.bitNot (k : Int)) = k := fun k => by unfold Builtin.bitNot; omega
  have e6 : Builtin.bitOr (n : Int) ((n / 2 ^ s * 2 ^ s : Nat) : Int) = n := by
    unfold Builtin.bitOr Builtin.bitAnd
    rw [decide_eq_false (show ¬ 0 ≤ Builtin.bitNot (n : Int) from by unfold Builtin.bitNot; omega), decide_eq_false (show ¬ 0 ≤ Builtin.bitNot ((n / 2 ^ s * 2 ^ s : Nat) : Int) from by unfold Builtin.bitNot; omega)]
    show Builtin.bitNot (Builtin.bitNot (((Builtin.bitNot (Builtin.bitNot (n : Int))).toNat ||| (Builtin.bitNot (Builtin.bitNot ((n / 2 ^ s * 2 ^ s : Nat) : Int))).toNat : Nat) : Int)) = _
    rw [e5, e5, e5, Int.toNat_natCast, Int.toNat_natCast, e3]
  unfold Builtin.bitXor
  rw [e4, e6]
  have h7 := Nat.div_add_mod n (2 ^ s)
  rw [Nat.mul_comm] at h7
  have h8 : ((n : Int) % 2 ^ s) = ((n % 2 ^ s : Nat) : Int) := by simp
  rw [h8]; omega
theorem bits_lt {x : Int} (h : 0 ≤ x) : x < 2 ^ Builtin.Int.intBits x := by
  unfold Builtin.Int.intBits
  split
  · rename_i h1
    have : x = 0 := by simpa using h1
    subst this; decide
  · have := @Nat.lt_log2_self x.natAbs
    have e : x = (x.natAbs : Int) := by omega
    rw [e]; exact_mod_cast this
theorem bits_pos {x : Int} (h : 0 < x) : 1 ≤ Builtin.Int.intBits x := by
  unfold Builtin.Int.intBits
  rw [if_neg (by simp; omega)]
  omega
theorem bits_le {x : Int} {k : Nat} (h0 : 0 ≤ x) (h : x < 2 ^ k) : Builtin.Int.intBits x ≤ k := by
  unfold Builtin.Int.intBits
  split
  · exact Nat.zero_le _
  · rename_i h1
    have h2 : x.natAbs ≠ 0 := by simp at h1; omega
    have : x.natAbs < 2 ^ k := by
      have e : x = (x.natAbs : Int) := by omega
      rw [e] at h; exact_mod_cast h
    exact (Nat.log2_lt h2).mpr this
theorem digs_join {B x : Int} (hB : 0 < B) (hx : 0 ≤ x) {ds d1 : List Int} {lo mid hi : Nat} (h1 : lo ≤ mid) (h2 : mid ≤ hi) (h3 : hi ≤ ds.length) (e : d1 = ds.take lo ++ digs B (x % B ^ (mid - lo)) (mid - lo) ++ ds.drop mid) :
    d1.take mid ++ digs B (x / B ^ (mid - lo)) (hi - mid) ++ d1.drop hi = ds.take lo ++ digs B x (hi - lo) ++ ds.drop hi := by
  subst e
  have l1 : (ds.take lo ++ digs B (x % B ^ (mid - lo)) (mid - lo)).length = mid := by rw [List.length_append, List.length_take, digs_len]; omega
  have e2 : (ds.take lo ++ digs B (x % B ^ (mid - lo)) (mid - lo) ++ ds.drop mid).drop hi = ds.drop hi := by
    rw [List.drop_append, l1, List.drop_eq_nil_of_le (by omega), List.nil_append, List.drop_drop]
    congr 1; omega
  rw [List.take_left' l1, e2, show hi - lo = (mid - lo) + (hi - mid) from by omega, digs_add hB _ _ _ hx, List.append_assoc (ds.take lo)]
theorem digs_one {B x : Int} (h0 : 0 ≤ x) (h : x < B) : digs B x 1 = [x] := by rw [digs, digs, Int.emod_eq_of_lt h0 h]
theorem set_mid {ds : List Int} {lo : Nat} (h : lo < ds.length) (x : Int) : ds.set lo x = ds.take lo ++ [x] ++ ds.drop (lo + 1) := by
  rw [List.set_eq_take_append_cons_drop, if_pos h, List.append_assoc]; rfl
theorem val_bd {B : Int} (hB : 0 < B) : ∀ ds : List Int, (∀ d ∈ ds, 0 ≤ d ∧ d < B) → 0 ≤ valB B ds ∧ valB B ds < B ^ ds.length
  | [], _ => ⟨Int.le_refl _, by show (0 : Int) < B ^ 0; rw [Int.pow_zero]; decide⟩
  | d :: ds, h => by
    obtain ⟨h1, h2⟩ := val_bd hB ds fun x hx => h x (.tail _ hx)
    obtain ⟨h3, h4⟩ := h d (.head _)
    have h5 : B * valB B ds ≤ B * (B ^ ds.length - 1) := Int.mul_le_mul_of_nonneg_left (by omega) (Int.le_of_lt hB)
    have h6 := Int.mul_nonneg (Int.le_of_lt hB) h1
    show 0 ≤ d + B * valB B ds ∧ d + B * valB B ds < B ^ (ds.length + 1)
    rw [Int.pow_succ, Int.mul_comm (B ^ ds.length)]
    rw [Int.mul_sub, Int.mul_one] at h5
    omega
def cutL (ds : List Int) (lo hi : Nat) : List Int := (ds.drop lo).take (hi - lo)
theorem cutL_len {ds : List Int} {lo hi : Nat} (h2 : hi ≤ ds.length) : (cutL ds lo hi).length = hi - lo := by rw [cutL, List.length_take, List.length_drop]; omega
theorem cutL_mem {ds : List Int} {lo hi : Nat} {d : Int} (h : d ∈ cutL ds lo hi) : d ∈ ds := List.mem_of_mem_drop (List.mem_of_mem_take h)
theorem cutL_app {ds : List Int} {lo mid hi : Nat} (h1 : lo ≤ mid) (h2 : mid ≤ hi) : cutL ds lo hi = cutL ds lo mid ++ cutL ds mid hi := by
  unfold cutL
  rw [show hi - lo = (mid - lo) + (hi - mid) from by omega, List.take_add, List.drop_drop, show lo + (mid - lo) = mid from by omega]
theorem cutL_one {ds : List Int} {lo : Nat} (h : lo < ds.length) : cutL ds lo (lo + 1) = [ds.getD lo 0] := by
  unfold cutL
  rw [Nat.add_sub_cancel_left, List.drop_eq_getElem_cons h, List.take_succ_cons, List.take_zero, List.getD_eq_getElem?_getD, List.getElem?_eq_getElem h]; rfl
theorem ipow_le {b : Int} (hb : 1 ≤ b) {m n : Nat} (h : m ≤ n) : b ^ m ≤ b ^ n := by
  obtain ⟨k, rfl⟩ := Nat.exists_eq_add_of_le h
  have h1 : 0 < b ^ m := Int.pow_pos (by omega)
  have h2 : 0 < b ^ k := Int.pow_pos (by omega)
  rw [Int.pow_add]
  have := Int.mul_le_mul_of_nonneg_left (show (1 : Int) ≤ b ^ k from h2) (Int.le_of_lt h1)
  rw [Int.mul_one] at this; exact this
theorem dm_m {a : Int} {n : Nat} (ha : 0 ≤ a) (ha2 : a < 2 ^ 14) (hn : 1 ≤ n) (hn2 : n ≤ 3) : a < ((2 : Int) ^ n) ^ ((Builtin.Int.intBits a + n - 1) / n) ∧ (Builtin.Int.intBits a + n - 1) / n ≤ 16 := by
  have b1 := bits_le ha ha2
  have e1 : Builtin.Int.intBits a ≤ n * ((Builtin.Int.intBits a + n - 1) / n) := by
    have h1 := Nat.div_add_mod (Builtin.Int.intBits a + n - 1) n
    have h2 := Nat.mod_lt (Builtin.Int.intBits a + n - 1) (show 0 < n from hn)
    omega
  refine ⟨?_, Nat.le_trans (Nat.div_le_self _ _) (by omega)⟩
  rw [← Int.pow_mul]
  exact Int.lt_of_lt_of_le (bits_lt ha) (ipow_le (by decide) e1)
/-- a number's value, its digits from the top -/
def topV (B : Int) (ds : List Int) : Int := ds.foldl (fun acc d => acc * B + d) 0
theorem topV_snoc (B : Int) (ds : List Int) (d : Int) : topV B (ds ++ [d]) = topV B ds * B + d := by simp [topV]
theorem topV_rev (B : Int) : ∀ ds : List Int, topV B ds.reverse = valB B ds
  | [] => rfl
  | d :: ds => by rw [List.reverse_cons, topV_snoc, topV_rev B ds]; show _ = d + B * valB B ds; rw [Int.mul_comm, Int.add_comm]
structure DmI (B b : Int) (T : List Int) (r : Int) (qs : List Int) : Prop where
  r : r = topV B T % b
  q : topV B qs = topV B T / b
  m : ∀ q ∈ qs, 0 ≤ q ∧ q < B
  l : qs.length = T.length
theorem DmI.step {B b r d : Int} {T qs : List Int} (h : DmI B b T r qs) (hb : 0 < b) (hd : 0 ≤ d ∧ d < B) : DmI B b (T ++ [d]) ((r * B + d) % b) (qs ++ [(r * B + d) / b]) ∧ 0 ≤ r ∧ r < b ∧ r * B + d < b * B := by
  have r0 : 0 ≤ r := h.r ▸ Int.emod_nonneg _ (by omega)
  have r1 : r < b := h.r ▸ Int.emod_lt_of_pos _ hb
  have hB : 0 < B := by omega
  have e0 : topV B T = b * topV B qs + r := by rw [h.q, h.r]; exact (Int.mul_ediv_add_emod _ _).symm
  have e1 : topV B T * B + d = (r * B + d) + b * (topV B qs * B) := by rw [e0, Int.add_mul, Int.mul_assoc]; omega
  have e2 : r * B + d < b * B := by
    have := Int.mul_le_mul_of_nonneg_right (show r + 1 ≤ b from r1) (Int.le_of_lt hB)
    rw [Int.add_mul, Int.one_mul] at this; omega
  have e3 : 0 ≤ r * B + d := Int.add_nonneg (Int.mul_nonneg r0 (Int.le_of_lt hB)) hd.1
  refine ⟨⟨?_, ?_, ?_, by simp [h.l]⟩, r0, r1, e2⟩
  · rw [topV_snoc, e1, Int.add_mul_emod_self_left]
  · rw [topV_snoc, topV_snoc, e1, Int.add_mul_ediv_left _ _ (by omega)]; omega
  · intro q hq
    rcases List.mem_append.mp hq with hq | hq
    · exact h.m q hq
    · rw [List.mem_singleton.mp hq]
      exact ⟨Int.ediv_nonneg e3 (Int.le_of_lt hb), (Int.ediv_lt_iff_lt_mul hb).mpr (by rw [Int.mul_comm B]; exact e2)⟩
/-! ## Pws -/
/-! blanks and tabs, as Whitespace counts them -/
def lvS (p : Int) (cs : List Int) : Nat → Int
  | 0 => 0
  | k + 1 => lvS p cs k + ((k : Nat) : Int).fdiv p * cs.getD k 0
def lvStep (p : Int) (q : Int × Int) (c : Nat) : Int × Int := if c = 9 then (q.1 + p * (q.2.fdiv p + 1), 0) else (q.1, q.2 + 1)
def lvF (p : Int) (l : List Nat) : Int × Int := l.foldl (lvStep p) (0, 0)
structure WsI (l : List Nat) (cs : List Int) (b n nt : Int) : Prop where
  b0 : 0 ≤ b
  n1 : n = l.length
  nt1 : nt = l.count 9
  len : cs.length + b ≤ l.length
  cb : ∀ x ∈ cs, 0 ≤ x ∧ x ≤ l.length
  lv : ∀ p, 1 ≤ p → lvF p l = (p * (lvS p cs cs.length + nt), b)
theorem lvS_congr {p : Int} {cs ds : List Int} : ∀ k : Nat, (∀ i, i < k → cs.getD i 0 = ds.getD i 0) → lvS p cs k = lvS p ds k
  | 0, _ => rfl
  | k + 1, h => by rw [lvS, lvS, lvS_congr k fun i hi => h i (Nat.lt_succ_of_lt hi), h k (Nat.lt_succ_self k)]
theorem lvS_stop {p : Int} {cs : List Int} : ∀ k : Nat, lvS p cs (cs.length + k) = lvS p cs cs.length
  | 0 => rfl
  | k + 1 => by rw [← Nat.add_assoc, lvS, lvS_stop k, List.getD_eq_getElem?_getD, List.getElem?_eq_none (Nat.le_add_right _ _), Option.getD_none, Int.mul_zero, Int.add_zero]
theorem lvS_set {p : Int} {cs : List Int} {b : Nat} (hb : b < cs.length) : ∀ k : Nat, lvS p (cs.set b (cs.getD b 0 + 1)) k = lvS p cs k + (if b < k then ((b : Nat) : Int).fdiv p else 0)
  | 0 => rfl
  | k + 1 => by
    rw [lvS, lvS, lvS_set hb k]
    by_cases e : k = b
    · subst e
      have h2 : (cs.set k (cs.getD k 0 + 1)).getD k 0 = cs.getD k 0 + 1 := by rw [List.getD_eq_getElem?_getD, List.getElem?_set_self hb]; rfl
      rw [h2, if_neg (Nat.lt_irrefl _), if_pos (Nat.lt_succ_self _), Int.mul_add, Int.mul_one, Int.add_zero, Int.add_assoc]
    · have h2 : (cs.set b (cs.getD b 0 + 1)).getD k 0 = cs.getD k 0 := by rw [List.getD_eq_getElem?_getD, List.getElem?_set_ne (fun q => e q.symm), ← List.getD_eq_getElem?_getD]
      rw [h2]
      by_cases e3 : b < k
      · rw [if_pos e3, if_pos (Nat.lt_succ_of_lt e3)]; omega
      · rw [if_neg e3, if_neg (by omega)]; omega
theorem lvF_snoc (p : Int) (l : List Nat) (c : Nat) : lvF p (l ++ [c]) = lvStep p (lvF p l) c := by simp [lvF]
theorem WsI.nil : WsI [] [] 0 0 0 := ⟨Int.le_refl _, rfl, rfl, Int.le_refl _, (fun x hx => by cases hx), fun p _ => by simp [lvF, lvS]⟩
theorem WsI.sp {l : List Nat} {cs : List Int} {b n nt : Int} (h : WsI l cs b n nt) : WsI (l ++ [32]) cs (b + 1) (n + 1) nt where
  b0 := Int.le_add_one h.b0
  n1 := by rw [h.n1]; simp
  nt1 := by rw [h.nt1]; simp
  len := by have := h.len; simp; omega
  cb := fun x hx => by have := h.cb x hx; simp; omega
  lv := fun p hp => by rw [lvF_snoc, h.lv p hp]; rfl
theorem getD_app0 (cs : List Int) (m i : Nat) : (cs ++ List.replicate m 0).getD i 0 = cs.getD i 0 := by
  simp only [List.getD_eq_getElem?_getD]
  by_cases h : i < cs.length
  · rw [List.getElem?_append_left h]
  · rw [List.getElem?_append_right (by omega), List.getElem?_eq_none (Nat.le_of_not_lt h), List.getElem?_replicate]
    split <;> rfl
theorem WsI.tab {l : List Nat} {cs : List Int} {b n nt : Int} {m : Nat} (h : WsI l cs b n nt) (hm : b < cs.length + m) (hm2 : m = 0 ∨ cs.length + m = b + 1) :
    WsI (l ++ [9]) ((cs ++ List.replicate m 0).set b.toNat (cs.getD b.toNat 0 + 1)) 0 (n + 1) (nt + 1) where
  b0 := Int.le_refl _
  n1 := by rw [h.n1]; simp
  nt1 := by rw [h.nt1]; simp
  len := by have := h.len; have := h.b0; simp; omega
  cb := fun x hx => by
    rw [List.length_append, List.length_singleton]
    rcases List.mem_or_eq_of_mem_set hx with hx | rfl
    · rcases List.mem_append.mp hx with hx | hx
      · have := h.cb x hx; omega
      · rw [List.eq_of_mem_replicate hx]; omega
    · have : cs.getD b.toNat 0 = 0 ∨ cs.getD b.toNat 0 ∈ cs := by
        rw [List.getD_eq_getElem?_getD]
        cases e : cs[b.toNat]? with
        | none => exact .inl rfl
        | some y => exact .inr (List.mem_of_getElem? e)
      rcases this with e | e
      · rw [e]; omega
      · have := h.cb _ e; omega
  lv := fun p hp => by
    have h0 := h.b0
    have hb : b.toNat < (cs ++ List.replicate m 0).length := by simp; omega
    have e1 : lvS p (cs ++ List.replicate m 0) (cs ++ List.replicate m 0).length = lvS p cs cs.length := by
      rw [lvS_congr (ds := cs) _ fun i _ => getD_app0 cs m i, List.length_append, lvS_stop]
    have e2 := lvS_set (p := p) hb (cs ++ List.replicate m 0).length
    rw [getD_app0, if_pos hb, e1, Int.toNat_of_nonneg h0] at e2
    rw [lvF_snoc, h.lv p hp, List.length_set, e2]
    show (_, (0 : Int)) = _
    congr 1
    show p * (lvS p cs cs.length + nt) + p * (b.fdiv p + 1) = _
    rw [← Int.mul_add]
    congr 1
    omega
theorem lvS_low {p : Int} (hp : 1 ≤ p) {cs : List Int} : ∀ k : Nat, (k : Int) ≤ p → lvS p cs k = 0
  | 0, _ => rfl
  | k + 1, h => by
    rw [lvS, lvS_low hp k (by omega)]
    have : ((k : Nat) : Int).fdiv p = 0 := by rw [Int.fdiv_eq_ediv_of_nonneg _ (by omega)]; exact Int.ediv_eq_zero_of_lt (by omega) (by omega)
    rw [this]; simp
theorem lvS_end {p : Int} (hp : 1 ≤ p) (cs : List Int) : lvS p cs (p.toNat + (cs.length - p).toNat) = lvS p cs cs.length := by
  by_cases h : (cs.length : Int) ≤ p
  · rw [show (cs.length - p).toNat = 0 from by omega, lvS_low hp _ (by omega), lvS_low hp _ h]
  · rw [show p.toNat + (cs.length - p).toNat = cs.length from by omega]
theorem lvF_bd {p : Int} (hp : 1 ≤ p) (l : List Nat) : ∀ q : Int × Int, 0 ≤ q.1 → 0 ≤ q.2 → 0 ≤ (l.foldl (lvStep p) q).1 ∧ 0 ≤ (l.foldl (lvStep p) q).2 ∧ (l.foldl (lvStep p) q).1 + (l.foldl (lvStep p) q).2 ≤ q.1 + q.2 + l.length * p := by
  induction l with
  | nil => intro q h1 h2; simp; exact ⟨h1, h2⟩
  | cons c l ih =>
    intro q h1 h2
    have e : ((c :: l).length : Int) * p = l.length * p + p := by rw [List.length_cons, Int.natCast_add, Int.add_mul]; simp
    have h3 : 0 ≤ (lvStep p q c).1 ∧ 0 ≤ (lvStep p q c).2 ∧ (lvStep p q c).1 + (lvStep p q c).2 ≤ q.1 + q.2 + p := by
      unfold lvStep
      split
      · have e1 : p * q.2.fdiv p ≤ q.2 := by have := Int.mul_fdiv_add_fmod q.2 p; have := Int.fmod_nonneg_of_pos q.2 (b := p) (by omega); omega
        have e2 : 0 ≤ p * q.2.fdiv p := Int.mul_nonneg (by omega) (Int.fdiv_nonneg h2 (by omega))
        rw [Int.mul_add, Int.mul_one]
        dsimp only
        omega
      · dsimp only; omega
    have := ih _ h3.1 h3.2.1
    rw [List.foldl_cons, e]
    omega
/-! ## Fways -/
def wstop (size c : Int) : Int := c + size - c.fmod size
structure WaysInv (size en : Int) (ls : List Int) (lo : Int) : Prop where
  len : ls.length = en.toNat + 1
  last : ls[en.toNat]? = some 1
  step : ∀ c : Int, lo ≤ c → c < en → ls.getD c.toNat 0 = ls.getD (c + 1).toNat 0 + (if wstop size c ≤ en then ls.getD (wstop size c).toNat 0 else 0)

theorem wstop_gt {size c : Int} (hs : 1 ≤ size) : c < wstop size c := by
  unfold wstop
  have := Int.fmod_lt_of_pos c (b := size) (by omega)
  omega

theorem WaysInv.set {size en c v : Int} {ls : List Int} (hs : 1 ≤ size) (h0 : 0 ≤ c) (h1 : c < en) (H : WaysInv size en ls (c + 1))
    (hv : v = ls.getD (c + 1).toNat 0 + (if wstop size c ≤ en then ls.getD (wstop size c).toNat 0 else 0)) : WaysInv size en (ls.set c.toNat v) c := by
  have ne : ∀ d : Int, c < d → (ls.set c.toNat v).getD d.toNat 0 = ls.getD d.toNat 0 := fun d hd => by
    rw [List.getD_eq_getElem?_getD, List.getD_eq_getElem?_getD, List.getElem?_set_ne (by omega)]
  refine ⟨by rw [List.length_set]; exact H.len, by rw [List.getElem?_set_ne (by omega)]; exact H.last, fun d hd1 hd2 => ?_⟩
  have g1 := ne (d + 1) (by omega)
  have g2 := ne (wstop size d) (by have := wstop_gt (size := size) (c := d) hs; omega)
  rw [g1, g2]
  by_cases e : d = c
  · subst e
    rw [← hv, List.getD_eq_getElem?_getD, List.getElem?_set_self (by have := H.len; omega)]; rfl
  · rw [ne d (by omega)]; exact H.step d (by omega) hd2
theorem WaysInv.start (size : Int) {en : Int} (he : 0 ≤ en) (t0 t3 : Tok) :
    ∃ ls, IntsAre ((List.replicate en.toNat [Value.int 0 t0]).flatten ++ [Value.int 1 t3]) ls ∧ WaysInv size en ls en := by
  refine ⟨List.replicate en.toNat 0 ++ [1], ?_, ?_, ?_, ?_⟩
  · induction en.toNat with
    | zero => exact .cons _ _ .nil
    | succ k ih => exact .cons _ _ ih
  · simp
  · simp
  · intro c h1 h2; omega

/-- the numbers of a turn -/
structure WaysN (size en col : Int) (sz : Nat) : Prop where
  a : 0 ≤ col
  b : 0 ≤ col + 1
  c : col + 1 < 2 ^ 63
  d : col < sz
  e : col < 2 ^ 63
  f : (col + 1).toNat < sz
  h : wstop size col ≤ en → 0 ≤ wstop size col ∧ wstop size col < 2 ^ 63 ∧ (wstop size col).toNat < sz
theorem WaysN.of {size en col : Int} {sz : Nat} (hs : 1 ≤ size) (he2 : en ≤ 30) (h0 : 0 ≤ col) (h1 : col + 1 ≤ en) (hz : sz = en.toNat + 1) : WaysN size en col sz := by
  have := wstop_gt (size := size) (c := col) hs
  subst hz
  refine ⟨h0, by omega, by omega, by omega, by omega, by omega, fun h => ?_⟩
  generalize wstop size col = q at *
  omega

theorem ways_call {w : World} {mg mb : Str → Option Value} {prog : Program} {A : Around} {sA : Shared} {R : Result → Shared → Prop} {size en : Int} {t1 t2 : Tok}
    (W : Wd w mg mb sA.heap) (hR : Rm A 1) (hs : 1 ≤ size) (he : 0 ≤ en) (he2 : en ≤ 30)
    (h : ∀ s' a its ls, Up sA s' → sA.heap.get? a = none → s'.heap.get? a = some (listOf its 0) → IntsAre its.toList ls → WaysInv size en ls 0 → R (.ok (.ret (.ref a))) s') :
    codeAny (model prog w) A (.call (.ref 190) ⟨[.int size t1, .int en t2], []⟩) R sA := by
  refine enter (rest := [Str.ofString "ways", Str.ofString "column", Str.ofString "stop"]) W hR (by rfl) (by kernel_rfl) (by rfl) (by decide +kernel) (by decide +kernel) (by rfl) ?_ (by rfl) (by rfl) (by rfl) (by decide +kernel)
  intro env L A' E Q s1 henv hB hE hR' hQ C
  dsimp only [List.map, List.replicate, List.length, List.append, List.cons_append, List.nil_append] at C
  replace hQ := fun a its ls s' u f o i => fun q => hQ (.ref a) s' (h s' a its ls u f o i q)
  clear h
  have F : Fm w mg mb sA.heap env L := ⟨W, hE⟩
  have x1 : IsLoc env [Str.ofString "size", Str.ofString "end", Str.ofString "ways", Str.ofString "column", Str.ofString "stop"] (Str.ofString "size") 0 := by walk_at "loc"
  have x2 : IsLoc env [Str.ofString "size", Str.ofString "end", Str.ofString "ways", Str.ofString "column", Str.ofString "stop"] (Str.ofString "end") 1 := by walk_at "loc"
  have x3 : IsLoc env [Str.ofString "size", Str.ofString "end", Str.ofString "ways", Str.ofString "column", Str.ofString "stop"] (Str.ofString "ways") 2 := by walk_at "loc"
  have x4 : IsLoc env [Str.ofString "size", Str.ofString "end", Str.ofString "ways", Str.ofString "column", Str.ofString "stop"] (Str.ofString "column") 3 := by walk_at "loc"
  have x5 : IsLoc env [Str.ofString "size", Str.ofString "end", Str.ofString "ways", Str.ofString "column", Str.ofString "stop"] (Str.ofString "stop") 4 := by walk_at "loc"
  have g1 : IsGlb env (Str.ofString "range") := by walk_at "glb"
  clear henv hB
  refine asE C F x3 (wpAny_BinOp (wpAny_BinOp (PyProof.Rows.List_ (evPs F (by walk_at "pes") C fun s2 t0 C2 => ?_)))) (by rfl)
  refine newL C2 (Nat.le_of_ble_eq_true rfl) fun s3 a3 C3 => evI C3 F (by walk_at "pe") fun s4 t4 C4 => ?_
  refine mulL C4 (C4.get (.head _)) he (by simp; omega) (by omega) fun s5 a5 C5 => PyProof.Rows.List_ (evPs F (by walk_at "pes") (C5.sub (N' := [_]) (List.Sublist.cons_cons _ (List.nil_sublist _))) fun s6 t3 C6 => ?_)
  have hst := WaysInv.start size he (t0 0) (t3 0)
  refine newL C6 (Nat.le_of_ble_eq_true rfl) fun s7 a7 C7 => addL C7 (C7.get (.tail _ (.head _))) (C7.get (.head _)) (by simp [sizeLine]; omega) fun s8 aw C8 => ?_
  rw [List.toList_toArray, List.toList_toArray] at C8
  generalize (List.replicate en.toNat [Value.int 0 (t0 0)]).flatten ++ [Value.int 1 (t3 0)] = its0 at C8 hst
  refine ⟨_, _, C8.sub (N' := [_]) (List.Sublist.cons_cons _ (List.nil_sublist _)), Nat.le_of_ble_eq_true rfl, fun s9 C9 => ?_⟩
  clear C2 C3 C4 C5 C6 C7 C8
  dsimp only [List.set] at C9
  refine forS (fun T F' hT => callP C9 F (.t _) (fun W h => nm_range W hE g1 h) (by walk_at "pes") fun s10 τ C10 => ?_) (by intro _; rfl)
  clear C9 C
  refine rng3 C10 (by decide) (by decide) fun s11 r t5 t6 t7 C11 => ?_
  obtain ⟨J, hJ⟩ : ∃ J : Nat → List (Option Value) → List (Addr × Obj) → Prop, ∀ i vs N, J i vs N ↔ ∃ its ls c st, vs = [some (.int size t1), some (.int en t2), some (.ref aw), c, st] ∧ N = [(aw, listOf its 0)] ∧ IntsAre its.toList ls ∧ WaysInv size en ls (en - i) := ⟨_, fun _ _ _ => Iff.rfl⟩
  refine it_range hR'.hh C11.drop hE x4 (C11.get (.head _)) (small_down (by omega) (by omega) (by omega)) (rs_down (by omega)) J ?_ ?_ ?_ ?_
  · obtain ⟨ls, h1, h2⟩ := hst
    exact (hJ _ _ _).mpr ⟨_, ls, _, _, rfl, rfl, by simpa using h1, by simpa using h2⟩
  · intro i vs N q; obtain ⟨its, ls, c, st, rfl, rfl, _⟩ := (hJ _ _ _).mp q; exact Nat.le_of_ble_eq_true rfl
  · clear hst C11 C10 hQ
    intro i tk vs N s I o E' T' hi q C hT
    obtain ⟨its, ls, c, st, rfl, rfl, hI, hW⟩ := (hJ _ _ _).mp q
    have hsz : its.size = ls.length := by simpa using hI.length
    rw [show en - 1 + (i : Int) * -1 = en - 1 - i by omega] at C
    have e1 : en - 1 - (i : Int) + 1 = en - i := by omega
    have b0 : 0 ≤ en - 1 - (i : Int) ∧ en - 1 - (i : Int) + 1 ≤ en ∧ en - ((i + 1 : Nat) : Int) = en - 1 - (i : Int) := by omega
    generalize en - 1 - (i : Int) = col at C e1 b0
    have B := WaysN.of (size := size) hs he2 b0.1 b0.2.1 (hsz.trans hW.len)
    have b2 : size ≠ 0 := by omega
    have bc := B.c
    have bb := B.b
    refine asI C F x5 (by walk_at "pe") (Nat.le_of_ble_eq_true rfl) (fun s2 t8 C2 => ?_) (by rfl)
    obtain ⟨ta, ha⟩ := ints_at (i := (col + 1).toNat) hI (hsz ▸ B.f)
    clear hi
    refine asL (j := 1) C2 F (PE.add (y := if wstop size col ≤ en then ls.getD (wstop size col).toNat 0 else 0) (by walk_at "pe") ?_) (by walk_at "pe") (by walk_at "pe") (by rfl) B.a B.d B.e ?_ (by rfl)
    · refine PE.ifE (by walk_at "pe") (by walk_at "pe") (by rfl) (by with_unfolding_all rfl) (fun hb => ?_) (fun hb => ?_)
      · have hb' : wstop size col ≤ en := of_decide_eq_true hb
        rw [if_pos hb']
        exact PE.itI (n := wstop size col) (by walk_at "pe") (by walk_at "kn") (by walk_at "pe") (B.h hb').1 (B.h hb').2.1 (ints_at hI (hsz ▸ (B.h hb').2.2)) (by rfl)
      · have hb' : ¬ wstop size col ≤ en := of_decide_eq_false hb
        rw [if_neg hb']
        exact PE.int
    · intro s3 t9 C3
      refine nextP (hT.nx _ _ _ ((hJ _ _ _).mpr ?_) C3)
      refine ⟨_, _, _, _, rfl, rfl, by rw [Array.toList_setIfInBounds]; exact ints_set hI _ _ _, ?_⟩
      rw [b0.2.2]
      exact WaysInv.set hs b0.1 b0.2.1 (e1 ▸ hW) rfl
  · intro vs N s q C
    obtain ⟨its, ls, c, st, rfl, rfl, hI, hW⟩ := (hJ _ _ _).mp q
    refine hT.nx _ (retR C F (by walk_at "pe") fun s' C' => ?_)
    have e : en - ((en - 1 - -1).toNat : Int) = 0 := by clear hW hI; omega
    exact hQ _ _ _ _ ⟨C'.same, C'.fr.keep⟩ (C'.nw _ (.head _)).2.2 (C'.get (.head _)) hI (e ▸ hW)
/-! ## Fplace -/
def placeStep (size : Int) (ls : List Int) (p : Int × Int) (c : Nat) : Int × Int :=
  if c = 9 then (wstop size p.1, p.2) else (p.1 + 1, p.2 + (if wstop size p.1 < ls.length then ls.getD (wstop size p.1).toNat 0 else 0))
def placeF (size : Int) (ls : List Int) (l : List Nat) : Int × Int := l.foldl (placeStep size ls) (0, 0)
theorem tab_eq (c : Nat) : ((⟨#[c]⟩ : Str) == Str.ofString "\t") = decide (c = 9) := by
  rw [show Str.ofString "\t" = (⟨#[9]⟩ : Str) from by decide +kernel]
  by_cases h : c = 9
  · subst h; rfl
  · rw [decide_eq_false h]; simpa using h
theorem place_nonneg {size : Int} (hs : 1 ≤ size) (ls : List Int) (l : List Nat) : ∀ p : Int × Int, 0 ≤ p.1 → 0 ≤ (l.foldl (placeStep size ls) p).1 := by
  induction l with
  | nil => intro p h; exact h
  | cons c l ih =>
    intro p h
    refine ih _ ?_
    have h1 := Int.fmod_lt_of_pos p.1 (b := size) (by omega)
    unfold placeStep wstop
    split <;> (dsimp only; omega)
theorem take_fold {l : List Nat} {i c : Nat} {size : Int} {ls : List Int} (h : l[i]? = some c) : placeF size ls (l.take (i + 1)) = placeStep size ls (placeF size ls (l.take i)) c := by
  unfold placeF
  rw [List.take_add_one, h]; simp

theorem place_call {w : World} {mg mb : Str → Option Value} {prog : Program} {A : Around} {sA : Shared} {R : Result → Shared → Prop} {size : Int} {lead : Str} {t1 t2 : Tok} {aw : Addr} {its : Array Value} {k : Nat} {ls : List Int}
    (W : Wd w mg mb sA.heap) (hR : Rm A 1) (hs : 1 ≤ size) (ha : lead.cps.all (· < 128) = true) (hw : sA.heap.get? aw = some (listOf its k)) (hI : IntsAre its.toList ls) (hz : ls.length ≤ 1000)
    (h : ∀ s' a τ, Up sA s' → sA.heap.get? a = none → s'.heap.get? a = some (tupOf (vals [.int (placeF size ls lead.cps.toList).2, .int (placeF size ls lead.cps.toList).1] τ).toArray) → R (.ok (.ret (.ref a))) s') :
    codeAny (model prog w) A (.call (.ref 197) ⟨[.str lead t1, .int size t2, .ref aw], []⟩) R sA := by
  refine enter (rest := [Str.ofString "column", Str.ofString "ahead", Str.ofString "sign", Str.ofString "stop"]) W hR (by rfl) (by kernel_rfl) (by rfl) (by decide +kernel) (by decide +kernel) (by rfl) ?_ (by rfl) (by rfl) (by rfl) (by decide +kernel)
  intro env L A' E Q s1 henv hB hE hR' hQ C
  dsimp only [List.map, List.replicate, List.length, List.append, List.cons_append, List.nil_append] at C
  replace hQ := fun a s' τ u f o => hQ (.ref a) s' (h s' a τ u f o)
  clear h
  have F : Fm w mg mb sA.heap env L := ⟨W, hE⟩
  have x1 : IsLoc env [Str.ofString "lead", Str.ofString "size", Str.ofString "ways", Str.ofString "column", Str.ofString "ahead", Str.ofString "sign", Str.ofString "stop"] (Str.ofString "lead") 0 := by walk_at "loc"
  have x2 : IsLoc env [Str.ofString "lead", Str.ofString "size", Str.ofString "ways", Str.ofString "column", Str.ofString "ahead", Str.ofString "sign", Str.ofString "stop"] (Str.ofString "size") 1 := by walk_at "loc"
  have x3 : IsLoc env [Str.ofString "lead", Str.ofString "size", Str.ofString "ways", Str.ofString "column", Str.ofString "ahead", Str.ofString "sign", Str.ofString "stop"] (Str.ofString "ways") 2 := by walk_at "loc"
  have x4 : IsLoc env [Str.ofString "lead", Str.ofString "size", Str.ofString "ways", Str.ofString "column", Str.ofString "ahead", Str.ofString "sign", Str.ofString "stop"] (Str.ofString "column") 3 := by walk_at "loc"
  have x5 : IsLoc env [Str.ofString "lead", Str.ofString "size", Str.ofString "ways", Str.ofString "column", Str.ofString "ahead", Str.ofString "sign", Str.ofString "stop"] (Str.ofString "ahead") 4 := by walk_at "loc"
  have x6 : IsLoc env [Str.ofString "lead", Str.ofString "size", Str.ofString "ways", Str.ofString "column", Str.ofString "ahead", Str.ofString "sign", Str.ofString "stop"] (Str.ofString "sign") 5 := by walk_at "loc"
  have x7 : IsLoc env [Str.ofString "lead", Str.ofString "size", Str.ofString "ways", Str.ofString "column", Str.ofString "ahead", Str.ofString "sign", Str.ofString "stop"] (Str.ofString "stop") 6 := by walk_at "loc"
  have g1 : IsGlb env (Str.ofString "len") := by walk_at "glb"
  clear henv hB
  have hsz : its.size = ls.length := by simpa using hI.length
  refine asI C F x4 (by walk_at "pe") (Nat.le_of_ble_eq_true rfl) (fun s2 t8 C2 => ?_) (by rfl)
  refine asI C2 F x5 (by walk_at "pe") (Nat.le_of_ble_eq_true rfl) (fun s3 t9 C3 => ?_) (by rfl)
  dsimp only [List.set] at C3
  clear C C2
  refine forS (fun T F' hT => evS C3 F (by walk_at "pe") fun s4 t4 C4 => ?_) (by intro _; rfl)
  obtain ⟨J, hJ⟩ : ∃ J : Nat → List (Option Value) → List (Addr × Obj) → Prop, ∀ i vs N, J i vs N ↔ ∃ t3 t4 sg st, vs = [some (.str lead t1), some (.int size t2), some (.ref aw), some (.int (placeF size ls (lead.cps.toList.take i)).1 t3), some (.int (placeF size ls (lead.cps.toList.take i)).2 t4), sg, st] ∧ N = [] := ⟨_, fun _ _ _ => Iff.rfl⟩
  refine it_str hR'.hh C4 hE x6 ha J ((hJ _ _ _).mpr ⟨_, _, _, _, rfl, rfl⟩) ?_ ?_ ?_
  · intro i vs N q; obtain ⟨_, _, _, _, rfl, rfl⟩ := (hJ _ _ _).mp q; exact Nat.le_of_ble_eq_true rfl
  · clear hQ C3 C4 hT
    intro i c tk vs N s I o E' T' hc q C hT
    obtain ⟨t5, t6, sg, st, rfl, rfl⟩ := (hJ _ _ _).mp q
    have hc' : lead.cps.toList[i]? = some c := by simpa using hc
    have e0 := take_fold (size := size) (ls := ls) hc'
    have e1 : 0 ≤ (placeF size ls (lead.cps.toList.take i)).1 := place_nonneg hs ls _ _ (Int.le_refl 0)
    generalize placeF size ls (lead.cps.toList.take i) = P at C e0 e1
    have b2 : size ≠ 0 := by omega
    have b3 := wstop_gt (size := size) (c := P.1) hs
    refine asI C F x7 (by walk_at "pe") (Nat.le_of_ble_eq_true rfl) (fun s2 t8 C2 => ?_) (by rfl)
    refine ifT C2 F (PT.scmp (by walk_at "pe") (by walk_at "pe") (by rfl) (by with_unfolding_all rfl)) (fun hb s3 T3 h3 C3 => ?_) (fun hb s3 T3 h3 C3 => ?_)
    · rw [tab_eq] at hb
      have hb' := of_decide_eq_true hb
      refine asI C3 F x4 (by walk_at "pe") (Nat.le_of_ble_eq_true rfl) (fun s4 t8 C4 => nextP (h3.nx _ (nextP (hT.nx _ _ _ ((hJ _ _ _).mpr ?_) C4)))) (by rfl)
      rw [e0, placeStep, if_pos hb']
      exact ⟨_, _, _, _, rfl, rfl⟩
    · rw [tab_eq] at hb
      have hb' := of_decide_eq_false hb
      refine asI C3 F x4 (by walk_at "pe") (Nat.le_of_ble_eq_true rfl) (fun s4 t8 C4 => ?_) (by rfl)
      refine asI C4 F x5 (PE.add (y := if wstop size P.1 < ls.length then ls.getD (wstop size P.1).toNat 0 else 0) (by walk_at "pe") ?_) (Nat.le_of_ble_eq_true rfl) (fun s5 t8 C5 => nextP (h3.nx _ (nextP (hT.nx _ _ _ ((hJ _ _ _).mpr ?_) C5)))) (by rfl)
      · have hz' : its.size < 2 ^ 63 := by omega
        refine PE.ifE (by walk_at "pe") (by walk_at "pe") (by rfl) (by with_unfolding_all rfl) (fun hb => ?_) (fun hb => ?_)
        · have hb2 : wstop size P.1 < its.size := of_decide_eq_true hb
          rw [hsz] at hb2
          rw [if_pos hb2]
          exact PE.itI (n := wstop size P.1) (by walk_at "pe") (by walk_at "kn") (by walk_at "pe") (by omega) (by omega) (ints_at hI (by omega)) (by rfl)
        · have hb2 : ¬ wstop size P.1 < its.size := of_decide_eq_false hb
          rw [hsz] at hb2
          rw [if_neg hb2]
          exact PE.int
      · rw [e0, placeStep, if_neg hb']
        exact ⟨_, _, _, _, rfl, rfl⟩
  · intro vs N s q C
    obtain ⟨t5, t6, sg, st, rfl, rfl⟩ := (hJ _ _ _).mp q
    rw [List.take_of_length_le (by simp)] at C
    refine hT.nx _ (retT C F (by walk_at "pes") (fun _ => Nat.le_of_ble_eq_true rfl) fun s' a τ C' => ?_)
    exact hQ _ _ _ ⟨C'.same, C'.fr.keep⟩ (C'.nw _ (.head _)).2.2 (C'.get (.head _))
/-! ## Flead -/
/-! texts of a row of figures -/
def segL (size f : Int) : List Nat := if f < size then List.replicate f.toNat 32 ++ [9] else List.replicate size.toNat 32
def leadL (size behind : Int) (fs : List Int) : List Nat := (fs.map (segL size)).flatten ++ List.replicate behind.toNat 32
def tx (l : List Nat) : Str := ⟨l.toArray⟩

theorem tx_app (a b : List Nat) : tx a ++ tx b = tx (a ++ b) := by
  show (⟨a.toArray ++ b.toArray⟩ : Str) = ⟨(a ++ b).toArray⟩
  simp
theorem foldl_rep {α : Type} (a : Array α) (n : Nat) : ∀ acc : Array α, (List.replicate n a).foldl (· ++ ·) acc = acc ++ (List.replicate n a.toList).flatten.toArray := by
  induction n with
  | zero => intro acc; simp
  | succ n ih => intro acc; rw [List.replicate_succ, List.foldl_cons, ih, List.replicate_succ, List.flatten_cons]; apply Array.ext'; simp
theorem mul_sp (n : Int) (h : 0 ≤ n) : Txt.mul (Str.ofString " ") n = tx (List.replicate n.toNat 32) := by
  have e : Str.ofString " " = tx [32] := by decide +kernel
  rw [e, Txt.mul]
  have r : ∀ k : Nat, (List.replicate k [32]).flatten = List.replicate k 32 := by
    intro k
    induction k with
    | zero => rfl
    | succ k ih => rw [List.replicate_succ, List.flatten_cons, ih, List.replicate_succ]; rfl
  split
  · have : n.toNat = 0 := by omega
    rw [this]; rfl
  · split
    · rename_i h1 h2
      have : n = 1 := by simpa [tx, Str.length] using h2
      subst this; rfl
    · show (⟨(List.replicate n.toNat #[32]).foldl (· ++ ·) #[]⟩ : Str) = _
      rw [foldl_rep, r, tx]
      simp
theorem mul_ok (n : Int) (h : 0 ≤ n) (h2 : n ≤ 1000) : MulOk (Str.ofString " ") n := by
  have e : (Str.ofString " ").length = 1 := by decide +kernel
  refine ⟨by simp; omega, fun _ _ => ?_, fun _ _ => ?_⟩
  · rw [e]
    have : (1 : Int) ≤ (2 ^ 63 - 1) / n := (Int.le_ediv_iff_mul_le (by omega)).mpr (by omega)
    omega
  · rw [e]
    have : n.toNat ≤ 1000 := by omega
    simp only [Builtin.Str.tooLong, sizeLine]
    exact decide_eq_false (by omega)
theorem join_nil (ls : List (List Nat)) : Txt.join (Str.ofString "") (ls.map tx) = tx ls.flatten := by
  have key : ∀ (l : List (List Nat)) (acc : Array Nat), (l.map tx).foldl (fun acc p => acc ++ (Str.ofString "").cps ++ p.cps) acc = acc ++ l.flatten.toArray := by
    intro l
    induction l with
    | nil => intro acc; simp
    | cons x l ih =>
      intro acc
      rw [List.map_cons, List.foldl_cons, ih]
      have e : (Str.ofString "").cps = #[] := by decide +kernel
      rw [e]
      apply Array.ext'
      simp [tx]
  unfold Txt.join Builtin.Str.glued
  cases ls with
  | nil => rfl
  | cons x l =>
    rw [List.map_cons, List.drop_succ_cons, List.drop_zero, key]
    simp [tx]
theorem segL_len {size f : Int} (hf : f ≤ size) (hs : size ≤ 6) : (segL size f).length ≤ 6 := by
  unfold segL
  split <;> simp <;> omega
theorem flat_len {ls : List (List Nat)} (h : ∀ l ∈ ls, l.length ≤ 6) : ls.flatten.length ≤ 6 * ls.length := by
  induction ls with
  | nil => simp
  | cons x l ih =>
    have h1 := h x (.head _)
    have h2 := ih fun y hy => h y (.tail _ hy)
    rw [List.flatten_cons, List.length_append, List.length_cons]; omega

theorem lead_call {w : World} {mg mb : Str → Option Value} {prog : Program} {A : Around} {sA : Shared} {R : Result → Shared → Prop} {size behind : Int} {t1 t2 : Tok} {af : Addr} {its : Array Value} {k : Nat} {fs : List Int}
    (W : Wd w mg mb sA.heap) (hR : Rm A 2) (hs : 1 ≤ size) (hs6 : size ≤ 6) (hb : 0 ≤ behind) (hb6 : behind ≤ 6) (hw : sA.heap.get? af = some (listOf its k)) (hI : IntsAre its.toList fs) (hz : fs.length ≤ 3) (hf : ∀ f ∈ fs, 0 ≤ f ∧ f ≤ size)
    (h : ∀ s' t, Up sA s' → R (.ok (.ret (.str (tx (leadL size behind fs)) t))) s') :
    codeAny (model prog w) A (.call (.ref 183) ⟨[.ref af, .int size t1, .int behind t2], []⟩) R sA := by
  refine enterC [] W (fun _ _ e => e) (Nat.le_refl _) (fun _ hp => nomatch hp) List.nodup_nil hR (by rfl) (by kernel_rfl) (by rfl) (by rfl) (by decide +kernel) (bindsV (ns := [Str.ofString "figures", Str.ofString "behind"]) (by rfl) (by rfl)) ?_ (fun n => by exact List.pairwise_singleton _ n) (by rfl) (by rfl) (by rfl)
  intro env L A' E Q s1 cells henv hB0 hE hR' hQ hc C
  obtain ⟨o, rfl, hd⟩ := CellsAre.one hc
  have C : Cx sA.heap sA L [Str.ofString "figures", Str.ofString "behind"] [some (.ref af), some (.int behind t2)] [(L + 1, o)] s1 := C
  have hd : o.data = .cell (some (.int size t1)) := hd
  have F : Fm w mg mb sA.heap env L := ⟨W, hE⟩
  have x1 : IsLoc env [Str.ofString "figures", Str.ofString "behind"] (Str.ofString "figures") 0 := by walk_at "loc"
  have x2 : IsLoc env [Str.ofString "figures", Str.ofString "behind"] (Str.ofString "behind") 1 := by walk_at "loc"
  have x3 : IsCel env (Str.ofString "size") (L + 1) := by subst henv; exact ⟨.inl (by rfl), by rfl, by decide, by decide⟩
  have k3 : env.kindOf (Str.ofString "size") = some .cell := by subst henv; rfl
  have kcl : env.cells.lookup (Str.ofString "size") = some (L + 1) := x3.l
  clear henv hc
  have hl : its.size = fs.length := by simpa using hI.length
  obtain ⟨J, hJ⟩ : ∃ J : Nat → Array Value → List (Addr × Obj) → Prop, ∀ i acc N, J i acc N ↔ ∃ l : List (Str × Tok), acc = (strValues l).toArray ∧ l.map (·.1) = ((fs.take i).map (segL size)).map tx ∧ N = [] := ⟨_, fun _ _ _ => Iff.rfl⟩
  refine wpAny_execs_cons (wpAny_Return_some (wpAny_BinOp (strM C F PE.str (by rfl) (by rfl) (by rfl) PySem.F.slot_str_join PySem.F.type_str_join fun s2 t C2 => lcE (by
      show (true && (true && ((env.cells.lookup (Str.ofString "size")).isSome && true))) = true
      rw [x3.l]; rfl) rfl (by decide +kernel) (evR C2 F (by walk_at "pe") fun s3 C3 => pyI_list C3 (C3.fr.keep _ _ hw) fun s4 I o4 hI4 C4 => lc_blk C4 F rfl (by decide +kernel) _
        (fun Cc cenv g' Bk G hE' => feed_list hR'.hh hE' (Bk.loc (by rfl) (by rfl) (by decide)) (G.k _ _ hw) ?_) J ((hJ _ _ _).mpr ⟨[], rfl, rfl, rfl⟩) hI4 ?_ ?_ ?_ ?_) (by intro _; rfl))))
  · intro q
    have := (C4.nw _ (.head _)).2.2
    rw [← q, hw] at this; cases this
  · rw [hl]; exact Nat.le_trans hz (Nat.le_of_ble_eq_true rfl)
  · intro i acc N q
    obtain ⟨l, rfl, h2, _⟩ := (hJ _ _ _).mp q
    have := congrArg List.length h2
    simp only [List.length_map, List.length_take] at this
    simp only [List.size_toArray, strValues, List.length_map]; omega
  · intro Cc cenv g' D i acc k vsC Nm s1 o E' T T' Bk G F' hi hJi hB C hT hT'
    have y1 : IsLoc cenv [Str.ofString "figure"] (Str.ofString "figure") 0 := Bk.loc (by rfl) (by rfl) (by decide)
    obtain ⟨l, rfl, h2, rfl⟩ := (hJ _ _ _).mp hJi
    obtain ⟨v, hv, rfl⟩ := hB
    rw [hl] at hi
    obtain ⟨t, hv'⟩ := ints_at hI hi
    rw [hv'] at hv; cases hv
    have hmem : fs.getD i 0 ∈ fs := by rw [List.getD_eq_getElem?_getD, List.getElem?_eq_getElem hi]; exact List.getElem_mem hi
    have hf' := hf _ hmem
    have hsz := FN.cel (ns := [Str.ofString "figure"]) (vs := [some (.int (fs.getD i 0) t)]) (N := ((I, o) :: (D, listOf (strValues l).toArray k) :: [])) (Bk.cel (by rfl) x3 k3) (Kn.g (G.n _ _ (.head _))) hd
    refine tests_no (evP (pv := .str (tx (segL size (fs.getD i 0)))) C F' (PE.ifE (PE.nI (by walk_at "fn")) (PE.nI hsz) (by rfl) (by with_unfolding_all rfl) (fun hb => ?_) (fun hb => ?_)) fun s' t' C' => hT' _ _ _ ((hJ _ _ _).mpr ⟨l ++ [(tx (segL size (fs.getD i 0)), t')], ?_, ?_, rfl⟩) C')
    · have hb' := of_decide_eq_true hb
      rw [show tx (segL size (fs.getD i 0)) = Txt.mul (Str.ofString " ") (fs.getD i 0) ++ Str.ofString "\t" from ?_]
      · refine PE.sadd (PE.smul PE.str (PE.nI (by walk_at "fn")) (mul_ok _ hf'.1 (by omega))) PE.str ?_
        rw [mul_sp _ hf'.1]
        show (List.replicate (fs.getD i 0).toNat 32).toArray.size + 1 ≤ _
        simp only [List.size_toArray, List.length_replicate, sizeLine]; omega
      · rw [mul_sp _ hf'.1, show Str.ofString "\t" = tx [9] from by decide +kernel, tx_app, segL, if_pos hb']
    · have hb' := of_decide_eq_false hb
      rw [show tx (segL size (fs.getD i 0)) = Txt.mul (Str.ofString " ") size from ?_]
      · exact PE.smul PE.str (PE.nI hsz) (mul_ok _ (by omega) (by omega))
      · rw [mul_sp _ (by omega), segL, if_neg hb']
    · simp [strValues]
    · rw [List.map_append, h2, List.take_add_one, List.map_append, List.map_append]
      rw [List.getD_eq_getElem?_getD, List.getElem?_eq_getElem hi]
      rfl
  · intro D acc k Nm s' hJn C5
    obtain ⟨l, rfl, h2, rfl⟩ := (hJ _ _ _).mp hJn
    rw [List.take_of_length_le (by omega)] at h2
    have hfl : (fs.map (segL size)).flatten.length ≤ 18 := by
      have := flat_len (ls := fs.map (segL size)) (by
        intro x hx
        obtain ⟨f, hf1, rfl⟩ := List.mem_map.mp hx
        exact segL_len (hf _ hf1).2 hs6)
      rw [List.length_map] at this; omega
    refine SC.join ⟨_, C5.get (.head _), rfl, _, rfl⟩ h2 ?_ fun t' tk => ?_
    · have h3 := StrLaws.joinFits (sep := Str.ofString "") (texts := (fs.map (segL size)).map tx) (B := 6) (fun y hy => ?_) ?_
      · show (!_) = true
        rw [h3]; rfl
      · obtain ⟨x, hx, rfl⟩ := List.mem_map.mp hy
        obtain ⟨f, hf1, rfl⟩ := List.mem_map.mp hx
        simpa [tx, Str.length] using segL_len (hf _ hf1).2 hs6
      · rw [show (Str.ofString "").length = 0 from by decide +kernel]; simp only [List.length_map]; omega
    · rw [join_nil]
      refine evP (pv := .str (Txt.mul (Str.ofString " ") behind)) (C5.toks tk) F (PE.smul PE.str (by walk_at "pe") (mul_ok _ hb (by omega))) fun s6 t6 C6 => ?_
      rw [mul_sp _ hb]
      refine PyProof.Rows.add_str (fun t7 tk7 => ?_) ?_
      · rw [tx_app]
        exact hQ _ _ (h _ _ ⟨(C6.toks tk7).same, (C6.toks tk7).fr.keep⟩)
      · simp only [tx, Str.length, List.size_toArray, List.length_replicate, sizeLine]; omega
/-! ## Finit -/
theorem sp_eq (c : Nat) : ((⟨#[c]⟩ : Str) == Str.ofString " ") = decide (c = 32) := by
  rw [show Str.ofString " " = (⟨#[32]⟩ : Str) from by decide +kernel]
  by_cases h : c = 32
  · subst h; rfl
  · rw [decide_eq_false h]; simpa using h
theorem tb_eq (c : Nat) : ((⟨#[c]⟩ : Str) == Str.ofString "\t") = decide (c = 9) := by
  rw [show Str.ofString "\t" = (⟨#[9]⟩ : Str) from by decide +kernel]
  by_cases h : c = 9
  · subst h; rfl
  · rw [decide_eq_false h]; simpa using h
structure WsOut (sA s' : Shared) (dx : Addr) (l : List Nat) : Prop where
  ex : ∃ es m cs its b n nt t1 t2 t3 an at', WsI l cs b n nt ∧ IntsAre its.toList cs ∧ s'.heap.get? dx = some (PySem.W.dictOf es m) ∧ getL "n" es = some (some (.int n t1)) ∧ getL "nt" es = some (some (.int nt t2)) ∧ getL "norm" es = some (some (.ref an)) ∧
    getL "indent_level" es = some none ∧ s'.heap.get? an = some (tupOf #[.ref at', .int b t3]) ∧ s'.heap.get? at' = some (tupOf its) ∧ sA.heap.get? an = none ∧ sA.heap.get? at' = none ∧ an ≠ at'
theorem new_of {s0 s : Shared} {L dx a : Addr} {o : Obj} {ns : List Str} {vs : List (Option Value)} {N : List (Addr × Obj)} (C : Cx (hideAll s0.heap [dx]) s0 L ns vs N s) (h : (a, o) ∈ N) (hne : a ≠ dx) : s0.heap.get? a = none := by
  cases e : s0.heap.get? a with
  | none => rfl
  | some ob =>
    have := (C.nw _ h).2.2
    rw [hideAll_get [dx] e (by simpa using hne)] at this; cases this

theorem init_call {w : World} {mg mb : Str → Option Value} {prog : Program} {A : Around} {sA : Shared} {R : Result → Shared → Prop} {x dx : Addr} {z : Str} {t : Tok} {l : List Nat} {c : Nat} {rest : List Nat}
    (W : Wd w mg mb (hideAll sA.heap [dx])) (hR : Rm A 1) (hx : sA.heap.get? x = some (instObj 174 dx)) (hd : sA.heap.get? dx = some (PySem.W.dictOf [] 0)) (hne : x ≠ dx)
    (hz : z.cps.toList = l ++ c :: rest) (ha : z.cps.all (· < 128) = true) (hl : ∀ a ∈ l, a = 32 ∨ a = 9) (hc : c ≠ 32 ∧ c ≠ 9) (hlen : l.length ≤ 1000)
    (h : ∀ s', Kp [dx] sA s' → WsOut sA s' dx l → R (.ok (.ret .none)) s') :
    codeAny (model prog w) A (.call (.ref 129) ⟨[.ref x, .str z t], []⟩) R sA := by
  refine enterH (rest := [Str.ofString "S", Str.ofString "T", Str.ofString "count", Str.ofString "b", Str.ofString "n", Str.ofString "nt", Str.ofString "ch"]) [(dx, PySem.W.dictOf [] 0)] W (fun b o e => of_hideAll _ e) (Nat.le_of_eq (hideAll_size _ _))
    (fun p hp => by rw [List.mem_singleton.mp hp]; exact ⟨hd, hideAll_none _ (.head _)⟩) (List.pairwise_singleton _ _) hR (by rfl) (by kernel_rfl) (by rfl) (by decide +kernel) (by decide +kernel) (by rfl) ?_ (by rfl) (by rfl) (by rfl) (by decide +kernel)
  intro env L A' E Q s1 henv hB hE hR' _ hQ C
  dsimp only [List.map, List.replicate, List.length, List.append, List.cons_append, List.nil_append] at C
  have hQ' : ∀ s' ns vs N, Cx (hideAll sA.heap [dx]) sA L ns vs N s' → WsOut sA s' dx l → Q .next s' := fun s' ns vs N C o => hQ _ (h s' ⟨C.same, fun b o hb e => C.fr.keep _ _ (hideAll_get _ e hb)⟩ o)
  clear h hQ
  have F : Fm w mg mb (hideAll sA.heap [dx]) env L := ⟨W, hE⟩
  have x1 : IsLoc env [Str.ofString "self", Str.ofString "ws", Str.ofString "S", Str.ofString "T", Str.ofString "count", Str.ofString "b", Str.ofString "n", Str.ofString "nt", Str.ofString "ch"] (Str.ofString "self") 0 := by walk_at "loc"
  have x2 : IsLoc env [Str.ofString "self", Str.ofString "ws", Str.ofString "S", Str.ofString "T", Str.ofString "count", Str.ofString "b", Str.ofString "n", Str.ofString "nt", Str.ofString "ch"] (Str.ofString "ws") 1 := by walk_at "loc"
  have x3 : IsLoc env [Str.ofString "self", Str.ofString "ws", Str.ofString "S", Str.ofString "T", Str.ofString "count", Str.ofString "b", Str.ofString "n", Str.ofString "nt", Str.ofString "ch"] (Str.ofString "S") 2 := by walk_at "loc"
  have x4 : IsLoc env [Str.ofString "self", Str.ofString "ws", Str.ofString "S", Str.ofString "T", Str.ofString "count", Str.ofString "b", Str.ofString "n", Str.ofString "nt", Str.ofString "ch"] (Str.ofString "T") 3 := by walk_at "loc"
  have x5 : IsLoc env [Str.ofString "self", Str.ofString "ws", Str.ofString "S", Str.ofString "T", Str.ofString "count", Str.ofString "b", Str.ofString "n", Str.ofString "nt", Str.ofString "ch"] (Str.ofString "count") 4 := by walk_at "loc"
  have x6 : IsLoc env [Str.ofString "self", Str.ofString "ws", Str.ofString "S", Str.ofString "T", Str.ofString "count", Str.ofString "b", Str.ofString "n", Str.ofString "nt", Str.ofString "ch"] (Str.ofString "b") 5 := by walk_at "loc"
  have x7 : IsLoc env [Str.ofString "self", Str.ofString "ws", Str.ofString "S", Str.ofString "T", Str.ofString "count", Str.ofString "b", Str.ofString "n", Str.ofString "nt", Str.ofString "ch"] (Str.ofString "n") 6 := by walk_at "loc"
  have x8 : IsLoc env [Str.ofString "self", Str.ofString "ws", Str.ofString "S", Str.ofString "T", Str.ofString "count", Str.ofString "b", Str.ofString "n", Str.ofString "nt", Str.ofString "ch"] (Str.ofString "nt") 7 := by walk_at "loc"
  have x9 : IsLoc env [Str.ofString "self", Str.ofString "ws", Str.ofString "S", Str.ofString "T", Str.ofString "count", Str.ofString "b", Str.ofString "n", Str.ofString "nt", Str.ofString "ch"] (Str.ofString "ch") 8 := by walk_at "loc"
  have g1 : IsGlb env (Str.ofString "len") := by walk_at "glb"
  have g2 : IsGlb env (Str.ofString "tuple") := by walk_at "glb"
  have g3 : IsGlb env (Str.ofString "Whitespace") := by walk_at "glb"
  have hxg : (hideAll sA.heap [dx]).get? x = some (instObj 174 dx) := hideAll_get _ hx (by simpa using hne)
  clear hx hd
  have st1 : ∀ nm, findIn (KF w) (.ref 174) nm = some none → takerIn (KF w) 174 nm = some none → StA (KF w) 174 nm := fun nm _ h => ⟨by kernel_rfl, by kernel_rfl, h, by kernel_rfl⟩
  refine wpAny_execs_cons (plainObj_wpAny_Assign_Attribute (evS C F (by walk_at "pe") fun s2 t2 C2 => atS C2 F (by walk_at "pe") (by walk_at "kn") (j := 0) (by rfl) (st1 _ (by kernel_rfl) (by kernel_rfl)) (by rfl) (Nat.le_of_ble_eq_true rfl) fun s3 tk3 C3 => ?_) (by rfl))
  obtain ⟨es, hes, hes1, hes2⟩ : ∃ es, es = putL (Str.ofString "raw") (PyData.keyHash w.params (Str.ofString "raw")) (.str (Str.ofString "raw") tk3) (.str z t2) [] ∧ getL (Str.ofString "raw") es = some (some (.str z t2)) ∧ es.length ≤ 10 := ⟨_, rfl, by rfl, Nat.le_of_ble_eq_true rfl⟩
  dsimp only [List.set] at C3
  rw [← hes] at C3
  clear C C2
  generalize putN (Str.ofString "raw") [] 0 = m at C3
  refine as2S hR'.hh F x3 x4 (by rfl) (by subst henv; rfl) (tup2 (by rfl) (atC (mc := .type "type") (v := .str (Str.ofString " ") 373) C3 F (fun q => nm_Whitespace (C3.wd F.W) hE g3 q) (by kernel_rfl) (by kernel_rfl) (by kernel_rfl) (by rfl) (fun s4 C4 => atC (mc := .type "type") (v := .str (Str.ofString "\t") 374) C4 F (fun q => nm_Whitespace (C4.wd F.W) hE g3 q) (by kernel_rfl) (by kernel_rfl) (by kernel_rfl) (by rfl)
    (fun s5 C5 => ⟨_, _, C5, fun s6 t6 C6 => ⟨t6, _, _, _, _, rfl, .n (.head _), C6, Nat.le_of_ble_eq_true rfl, Nat.le_of_ble_eq_true rfl, fun s7 C7 => ?_⟩⟩) (by rfl) (by intro _; rfl)) (by rfl) (by intro _; rfl)))
  replace C7 := C7.drop
  clear C3 henv
  refine asE C7 F x5 (PyProof.Rows.List_ (spl0 (newL C7 (Nat.zero_le _) fun s8 lc C8 => ⟨_, _, C8, Nat.le_of_ble_eq_true rfl, fun s9 C9 => ?_⟩))) (by rfl)
  clear C7
  refine wpAny_execs_cons (wpAny_Assign_three (cInt C9 fun s10 tz C10 => PyProof.Rows.assign_Name (stL C10 hE x6 (Nat.le_of_ble_eq_true rfl) fun s11 C11 => PyProof.Rows.assign_Name (stL C11 hE x7 (Nat.le_of_ble_eq_true rfl) fun s12 C12 => PyProof.Rows.assign_Name (stL C12 hE x8 (Nat.le_of_ble_eq_true rfl) fun s13 C13 => ?_)))) (by rfl) (by rfl))
  clear C9
  dsimp only [List.set] at C13
  have r1 : RdA (KF w) 174 (Str.ofString "raw") := ⟨by kernel_rfl, by kernel_rfl, by kernel_rfl⟩
  refine forS (fun T F' hT => atE C13 F (by walk_at "pe") (by walk_at "kn") (by walk_at "kn") r1 hes1 (by rfl) (fun s14 C14 => ?_) (by rfl) (by intro _; rfl)) (by intro _; rfl)
  clear C13 r1
  obtain ⟨J, hJ⟩ : ∃ J : Nat → List (Option Value) → List (Addr × Obj) → Prop, ∀ i vs N, J i vs N ↔ ∃ t1 t2 t3 ch lc its k cs b n nt, i ≤ l.length ∧ WsI (l.take i) cs b n nt ∧ IntsAre its.toList cs ∧
    vs = [some (.ref x), some (.str z t), some (.str (Str.ofString " ") 373), some (.str (Str.ofString "\t") 374), some (.ref lc), some (.int b t1), some (.int n t2), some (.int nt t3), ch] ∧ N = [(lc, listOf its k), (dx, PySem.W.dictOf es m)] := ⟨_, fun _ _ _ => Iff.rfl⟩
  refine it_str hR'.hh C14 hE x9 ha J ((hJ _ _ _).mpr ⟨tz, tz, tz, none, lc, _, _, [], 0, 0, 0, Nat.zero_le _, WsI.nil, .nil, rfl, rfl⟩) ?_ ?_ ?_
  · intro i vs N q; obtain ⟨_, _, _, _, _, _, _, _, _, _, _, _, _, _, rfl, rfl⟩ := (hJ _ _ _).mp q; exact Nat.le_of_ble_eq_true rfl
  · clear C14
    intro i c' tk vs N s I o E' T' hc' q C hT'
    obtain ⟨t1, t2', t3, ch, lc, its, k, cs, b, n, nt, hi, hw, hI, rfl, rfl⟩ := (hJ _ _ _).mp q
    dsimp only [List.set] at C
    have hc2 : (l ++ c :: rest)[i]? = some c' := by rw [← hz]; simpa using hc'
    have hb0 := hw.b0
    have hl2 : cs.length + b ≤ 1000 := by have := hw.len; simp at this; omega
    have hl3 : its.size = cs.length := by simpa using hI.length
    have nx : (c' = 32 ∨ c' = 9) → i + 1 ≤ l.length ∧ l.take (i + 1) = l.take i ++ [c'] := by
      intro h9
      have h8 : i < l.length := by
        rcases Nat.lt_or_ge i l.length with h8 | h8
        · exact h8
        · have : i = l.length := by omega
          subst this
          rw [List.getElem?_append_right (Nat.le_refl _), Nat.sub_self] at hc2
          simp at hc2; omega
      rw [List.getElem?_append_left h8] at hc2
      exact ⟨h8, by rw [List.take_add_one, hc2]; rfl⟩
    refine ifT C F (PT.scmp (by walk_at "pe") (by walk_at "pe") (by rfl) (by with_unfolding_all rfl)) (fun hb s3 T3 h3 C3 => ?_) (fun hb s3 T3 h3 C3 => ?_)
    · rw [sp_eq] at hb
      have hb' := of_decide_eq_true hb
      obtain ⟨n1, n2⟩ := nx (.inl hb')
      refine asI C3 F x7 (by walk_at "pe") (Nat.le_of_ble_eq_true rfl) (fun s4 t8 C4 => ?_) (by rfl)
      refine asI C4 F x6 (by walk_at "pe") (Nat.le_of_ble_eq_true rfl) (fun s5 t8 C5 => nextP (h3.nx _ (nextP (hT'.nx _ _ _ ((hJ _ _ _).mpr ⟨_, _, _, _, _, _, _, cs, _, _, _, n1, ?_, hI, rfl, rfl⟩) C5)))) (by rfl)
      rw [n2, hb']; exact hw.sp
    · rw [sp_eq] at hb
      have hb' := of_decide_eq_false hb
      refine ifT C3 F (PT.scmp (by walk_at "pe") (by walk_at "pe") (by rfl) (by with_unfolding_all rfl)) (fun hb s4 T4 h4 C4 => ?_) (fun hb s4 T4 h4 C4 => ?_)
      · rw [tb_eq] at hb
        have hb2 := of_decide_eq_true hb
        obtain ⟨n1, n2⟩ := nx (.inr hb2)
        refine asI C4 F x7 (by walk_at "pe") (Nat.le_of_ble_eq_true rfl) (fun s5 t5 C5 => ?_) (by rfl)
        refine asI C5 F x8 (by walk_at "pe") (Nat.le_of_ble_eq_true rfl) (fun s6 t6 C6 => ?_) (by rfl)
        dsimp only [List.set] at C6
        clear C3 C4 C5
        refine ifJ C6 F (PT.cmp (by walk_at "pe") (by walk_at "pe") (by rfl) (by with_unfolding_all rfl)) (fun s => ∃ lc its k m', b < cs.length + (m' : Nat) ∧ (m' = 0 ∨ (cs.length : Int) + m' = b + 1) ∧ IntsAre its.toList (cs ++ List.replicate m' 0) ∧
            Cx (hideAll sA.heap [dx]) sA L [Str.ofString "self", Str.ofString "ws", Str.ofString "S", Str.ofString "T", Str.ofString "count", Str.ofString "b", Str.ofString "n", Str.ofString "nt", Str.ofString "ch"] [some (.ref x), some (.str z t), some (.str (Str.ofString " ") 373), some (.str (Str.ofString "\t") 374), some (.ref lc), some (.int b t1), some (.int (n + 1) t5), some (.int (nt + 1) t6), some (.str ⟨#[c']⟩ tk)] [(I, o), (lc, listOf its k), (dx, PySem.W.dictOf es m)] s) (fun hb s7 T7 h7 C7 => ?_) (fun hb s7 T7 h7 C7 => ?_) (fun s7 hP => ?_)
        · have hb3 : (its.size : Int) ≤ b := of_decide_eq_true hb
          refine asE C7 F x5 (wpAny_BinOp (evR C7 F (by walk_at "pe") fun s8 C8 => wpAny_BinOp (PyProof.Rows.List_ (splC (cInt C8 fun s9 t9 C9 => spl0 (newL C9 (Nat.le_of_ble_eq_true rfl) fun s10 la C10 => evI C10 F (by walk_at "pe") fun s11 t11 C11 =>
            mulL C11 (C11.get (.head _)) (by omega) (by show 1 * _ ≤ _; omega) (by omega) fun s12 lb C12 => addL C12 (C12.get (by k_mem)) (C12.get (.head _)) ?_ fun s13 ld C13 => ⟨_, _, C13, Nat.le_of_ble_eq_true rfl, fun s14 C14 => nextP (h7 _ ⟨ld, _, _, (b - its.size + 1).toNat, ?_, ?_, ?_, (C14.sub (.cons₂ _ (.cons _ (.cons _ (.cons₂ _ (.cons _ (.cons₂ _ .slnil))))))).swap⟩)⟩)) (by rfl))))) (by rfl)
          · simp [sizeLine]; omega
          · omega
          · right; omega
          · rw [List.toList_toArray, List.toList_toArray]
            exact ints_app hI (ints_flat _ _ _)
        · have hb3 : ¬ (its.size : Int) ≤ b := of_decide_eq_false hb
          refine nextP (h7 _ ⟨lc, its, k, 0, by omega, .inl rfl, ?_, C7⟩)
          rw [List.replicate_zero, List.append_nil]; exact hI
        · obtain ⟨lc, its, k, m', m1, m2, hI2, C7⟩ := hP
          clear C6 hI hl3 q
          have hl4 : its.size = cs.length + m' := by simpa using hI2.length
          have hlt : b.toNat < (cs ++ List.replicate m' 0).length := by simp; omega
          have hb8 : b < its.size := by omega
          refine asL (n := b) (j := 1) C7 F (PE.add (PE.itI (n := b) (by walk_at "pe") (by walk_at "kn") (by walk_at "pe") hb0 (by omega) (ints_at hI2 hlt) (by rfl)) PE.int) (by walk_at "pe") (by walk_at "pe") (by rfl) hb0 hb8 (by omega) (fun s8 t8 C8 => ?_) (by rfl)
          refine asI C8 F x6 (by walk_at "pe") (Nat.le_of_ble_eq_true rfl) (fun s9 t9 C9 => nextP (h4.nx _ (nextP (h3.nx _ (nextP (hT'.nx _ _ _ ((hJ _ _ _).mpr ⟨_, _, _, _, _, _, _, (cs ++ List.replicate m' 0).set b.toNat (cs.getD b.toNat 0 + 1), _, _, _, n1, ?_, ?_, rfl, rfl⟩) C9)))))) (by rfl)
          · rw [n2, hb2]; exact hw.tab m1 m2
          · rw [Array.toList_setIfInBounds, getD_app0]
            exact ints_set hI2 _ _ _
      · rw [tb_eq] at hb
        have hb2 := of_decide_eq_false hb
        have hil : i = l.length := by
          rcases Nat.lt_or_ge i l.length with h8 | h8
          · rw [List.getElem?_append_left h8] at hc2
            rcases hl _ (List.mem_of_getElem? hc2) with h9 | h9
            · exact absurd h9 hb'
            · exact absurd h9 hb2
          · omega
        rw [hil, List.take_length] at hw
        refine wpAny_execs_cons (wpAny_Break (h4.ot .brk _ (by simp) (h3.ot .brk _ (by simp) (hT'.bk _ (hT.nx _ ?_)))))
        clear hT' h3 h4 q hJ C C3 nx hc2 hc' hT
        refine wpAny_execs_cons (plainObj_wpAny_Assign_Attribute (evI C4 F (by walk_at "pe") fun s2 t2 C2 => atS C2 F (by walk_at "pe") (by walk_at "kn") (j := 2) (by rfl) (st1 _ (by kernel_rfl) (by kernel_rfl)) (by rw [hes]; rfl) (by omega) fun s3 tk3 C3 => ?_) (by rfl))
        dsimp only [List.set] at C3
        clear C4
        obtain ⟨es2, he2, lz2⟩ : ∃ e, e = putL (Str.ofString "n") (PyData.keyHash w.params (Str.ofString "n")) (.str (Str.ofString "n") tk3) (.int n t2) es ∧ e.length ≤ 20 := ⟨_, rfl, by rw [hes]; exact Nat.le_of_ble_eq_true rfl⟩
        rw [← he2] at C3
        generalize putN (Str.ofString "n") es m = m2 at C3
        refine wpAny_execs_cons (plainObj_wpAny_Assign_Attribute (evI C3 F (by walk_at "pe") fun s4 t4 C4 => atS C4 F (by walk_at "pe") (by walk_at "kn") (j := 2) (by rfl) (st1 _ (by kernel_rfl) (by kernel_rfl)) (by rw [he2, hes]; rfl) (by omega) fun s5 tk5 C5 => ?_) (by rfl))
        dsimp only [List.set] at C5
        clear C3
        obtain ⟨es3, he3, lz3⟩ : ∃ e, e = putL (Str.ofString "nt") (PyData.keyHash w.params (Str.ofString "nt")) (.str (Str.ofString "nt") tk5) (.int nt t4) es2 ∧ e.length ≤ 20 := ⟨_, rfl, by rw [he2, hes]; exact Nat.le_of_ble_eq_true rfl⟩
        rw [← he3] at C5
        generalize putN (Str.ofString "nt") es2 m2 = m3 at C5
        refine wpAny_execs_cons (plainObj_wpAny_Assign_Attribute (tup2 (by rfl) (callP (pvs := [.ref lc]) C5 F (.t _) (fun W q => nm_tuple W hE g2 q) (by walk_at "pes") (fun s6 τ C6 => tupL C6 (by walk_at "kn") (by simp only [sizeLine]; omega) fun s7 ta C7 => evI C7 F (by walk_at "pe") fun s8 t8 C8 => ⟨_, _, C8, fun s9 tn C9 =>
          atS (j := 4) C9 F (by walk_at "pe") (by walk_at "kn") (by rfl) (st1 _ (by kernel_rfl) (by kernel_rfl)) (by rw [he3, he2, hes]; rfl) (by omega) fun s10 tk10 C10 => ?_⟩))) (by rfl))
        dsimp only [List.set] at C10
        clear C5
        obtain ⟨es4, he4, lz4⟩ : ∃ e, e = putL (Str.ofString "norm") (PyData.keyHash w.params (Str.ofString "norm")) (.str (Str.ofString "norm") tk10) (.ref tn) es3 ∧ e.length ≤ 20 := ⟨_, rfl, by rw [he3, he2, hes]; exact Nat.le_of_ble_eq_true rfl⟩
        rw [← he4] at C10
        generalize putN (Str.ofString "norm") es3 m3 = m4 at C10
        refine wpAny_execs_cons (plainObj_wpAny_Assign_Attribute (evP C10 F (pv := .bool _) (by walk_at "pe") fun s11 t11 C11 => atS (j := 4) C11 F (by walk_at "pe") (by walk_at "kn") (by rfl) (st1 _ (by kernel_rfl) (by kernel_rfl)) (by rw [he4, he3, he2, hes]; rfl) (by omega) fun s12 tk12 C12 => ?_) (by rfl))
        dsimp only [List.set] at C12
        refine nextP (hQ' _ _ _ _ C12 ⟨⟨_, _, cs, its, b, n, nt, t2, t4, t8, tn, ta, hw, hI, C12.get (by k_mem), ?_, ?_, ?_, ?_, C12.get (by k_mem), C12.get (by k_mem), new_of C12 (by k_mem) ?_, new_of C12 (by k_mem) ?_, ?_⟩⟩)
        · rw [he4, he3, he2, hes]; rfl
        · rw [he4, he3, he2, hes]; rfl
        · rw [he4, he3, he2, hes]; rfl
        · rw [he4, he3, he2, hes]; rfl
        all_goals (have nd := C12.nd; simp only [List.map_cons, List.map_nil, List.nodup_cons, List.mem_cons, List.not_mem_nil, or_false, not_or] at nd; first | exact nd.1.2.2.2 | exact nd.2.1.2.2 | exact nd.1.1)
  · intro vs N s q C
    obtain ⟨_, _, _, _, _, _, _, _, _, _, _, hi, _⟩ := (hJ _ _ _).mp q
    have := congrArg List.length hz
    simp at this; omega
/-! ## Findent -/
theorem indent_call {w : World} {mg mb : Str → Option Value} {prog : Program} {A : Around} {sA : Shared} {R : Result → Shared → Prop} {x dx an ta : Addr} {p : Int} {tp t1 t2 t3 : Tok} {l : List Nat} {es : List DictEntry} {m : Nat} {cs : List Int} {its : Array Value} {b n nt : Int}
    (W : Wd w mg mb sA.heap) (hR : Rm A 1) (hp : 1 ≤ p) (hp2 : p ≤ 100) (hx : sA.heap.get? x = some (instObj 174 dx)) (hd : sA.heap.get? dx = some (PySem.W.dictOf es m)) (hlen : l.length ≤ 1000)
    (hw : WsI l cs b n nt) (hI : IntsAre its.toList cs) (h2 : getL (Str.ofString "nt") es = some (some (.int nt t2))) (h3 : getL (Str.ofString "norm") es = some (some (.ref an))) (h4 : sA.heap.get? an = some (tupOf #[.ref ta, .int b t3])) (h5 : sA.heap.get? ta = some (tupOf its))
    (h : ∀ s' t, Up sA s' → R (.ok (.ret (.int ((lvF p l).1 + (lvF p l).2) t))) s') :
    codeAny (model prog w) A (.call (.ref 143) ⟨[.ref x, .int p tp], []⟩) R sA := by
  refine enter (rest := [Str.ofString "count", Str.ofString "trailing", Str.ofString "il", Str.ofString "i"]) W hR (by rfl) (by kernel_rfl) (by rfl) (by decide +kernel) (by decide +kernel) (by rfl) ?_ (by rfl) (by rfl) (by rfl) (by decide +kernel)
  intro env L A' E Q s1 henv hB hE hR' hQ C
  dsimp only [List.map, List.replicate, List.length, List.append, List.cons_append, List.nil_append] at C
  replace hQ := fun s' t u => hQ (.int ((lvF p l).1 + (lvF p l).2) t) s' (h s' t u)
  clear h
  have F : Fm w mg mb sA.heap env L := ⟨W, hE⟩
  have x1 : IsLoc env [Str.ofString "self", Str.ofString "tabsize", Str.ofString "count", Str.ofString "trailing", Str.ofString "il", Str.ofString "i"] (Str.ofString "self") 0 := by walk_at "loc"
  have x2 : IsLoc env [Str.ofString "self", Str.ofString "tabsize", Str.ofString "count", Str.ofString "trailing", Str.ofString "il", Str.ofString "i"] (Str.ofString "tabsize") 1 := by walk_at "loc"
  have x3 : IsLoc env [Str.ofString "self", Str.ofString "tabsize", Str.ofString "count", Str.ofString "trailing", Str.ofString "il", Str.ofString "i"] (Str.ofString "count") 2 := by walk_at "loc"
  have x4 : IsLoc env [Str.ofString "self", Str.ofString "tabsize", Str.ofString "count", Str.ofString "trailing", Str.ofString "il", Str.ofString "i"] (Str.ofString "trailing") 3 := by walk_at "loc"
  have x5 : IsLoc env [Str.ofString "self", Str.ofString "tabsize", Str.ofString "count", Str.ofString "trailing", Str.ofString "il", Str.ofString "i"] (Str.ofString "il") 4 := by walk_at "loc"
  have x6 : IsLoc env [Str.ofString "self", Str.ofString "tabsize", Str.ofString "count", Str.ofString "trailing", Str.ofString "il", Str.ofString "i"] (Str.ofString "i") 5 := by walk_at "loc"
  have g1 : IsGlb env (Str.ofString "len") := by walk_at "glb"
  have g2 : IsGlb env (Str.ofString "range") := by walk_at "glb"
  clear henv hB
  have hl0 := hw.len
  have hb0 := hw.b0
  have hsz : its.size = cs.length := by simpa using hI.length
  have p0 : p ≠ 0 := by omega
  have p1 : p.natAbs < 1073741824 := by omega
  have z1 : its.size < 2 ^ 63 := by omega
  refine as2 hR'.hh F x3 x4 (by rfl) (by rfl) (atE C F (by walk_at "pe") (.g hx) (.g hd) ⟨by kernel_rfl, by kernel_rfl, by kernel_rfl⟩ h3 (by rfl) (fun s2 C2 => ⟨_, _, _, _, _, rfl, .g h4, C2, Nat.le_of_ble_eq_true rfl, Nat.le_of_ble_eq_true rfl, fun s3 C3 => ?_⟩) (by rfl) (by intro _; rfl))
  refine asI C3 F x5 (by walk_at "pe") (Nat.le_of_ble_eq_true rfl) (fun s4 t4 C4 => ?_) (by rfl)
  dsimp only [List.set] at C4
  clear C C3
  refine forS (fun T F' hT => callP (pvs := [.int p, .int its.size]) C4 F (.t _) (fun W q => nm_range W hE g2 q) (by walk_at "pes") fun s5 τ C5 => rng2 C5 fun s6 ra t6 u6 v6 C6 => ?_) (by intro _; rfl)
  obtain ⟨J, hJ⟩ : ∃ J : Nat → List (Option Value) → List (Addr × Obj) → Prop, ∀ i vs N, J i vs N ↔ ∃ t5 iv, vs = [some (.ref x), some (.int p tp), some (.ref ta), some (.int b t3), some (.int (lvS p cs (p.toNat + i)) t5), iv] ∧ N = [(ra, rngOf p its.size 1 t6 u6 v6)] := ⟨_, fun _ _ _ => Iff.rfl⟩
  refine it_range hR'.hh C6 hE x6 (C6.get (.head _)) (small_up (by omega) (by omega) (by omega) (by omega)) rs_up J ((hJ _ _ _).mpr ⟨t4, none, by rw [Nat.add_zero, lvS_low hp _ (by omega)], rfl⟩) ?_ ?_ ?_
  · intro i vs N q; obtain ⟨_, _, rfl, rfl⟩ := (hJ _ _ _).mp q; exact Nat.le_of_ble_eq_true rfl
  · clear hQ C4 C6 hT
    intro i tk vs N s I o E' T' hi q C hT
    obtain ⟨t5, iv, rfl, rfl⟩ := (hJ _ _ _).mp q
    have hlt : (p + i * 1).toNat < cs.length := by omega
    obtain ⟨ti, hti⟩ := ints_at hI hlt
    have hbd := hw.cb (cs.getD (p + i * 1).toNat 0) (by rw [List.getD_eq_getElem?_getD, List.getElem?_eq_getElem hlt]; exact List.getElem_mem hlt)
    refine asI (n := lvS p cs (p.toNat + i) + (p + i * 1).fdiv p * cs.getD (p + i * 1).toNat 0) C F x5 (PE.add (by walk_at "pe") (PE.mul (by walk_at "pe") (PE.titem (n := p + i * 1) (pv := .int _) (by walk_at "pe") (.g h5) (by walk_at "pe") (by omega) (by omega) hti (by rfl)) (by omega))) (Nat.le_of_ble_eq_true rfl)
      (fun s4 t8 C4 => nextP (hT.nx _ _ _ ((hJ _ _ _).mpr ⟨t8, some (.int (p + i * 1) tk), ?_, rfl⟩) C4)) (by rfl)
    rw [← Nat.add_assoc, lvS, show ((p.toNat + i : Nat) : Int) = p + i * 1 from by omega, show p.toNat + i = (p + i * 1).toNat from by omega]
    rfl
  · intro vs N s q C
    obtain ⟨t5, iv, rfl, rfl⟩ := (hJ _ _ _).mp q
    rw [hsz, lvS_end hp] at C
    have hv := hw.lv p hp
    have hbd := lvF_bd hp l (0, 0) (Int.le_refl _) (Int.le_refl _)
    rw [← lvF, hv] at hbd
    have hy : (lvS p cs cs.length + nt).natAbs < 2 ^ 63 := by
      have h6 : (l.length : Int) * p ≤ 1000 * 100 := Int.mul_le_mul (by omega) hp2 (by omega) (by omega)
      have h7 : 0 ≤ lvS p cs cs.length + nt := by
        rcases Int.lt_or_le (lvS p cs cs.length + nt) 0 with h8 | h8
        · have := Int.mul_neg_of_pos_of_neg (show 0 < p from by omega) h8; dsimp only at hbd; omega
        · exact h8
      have h9 : 1 * (lvS p cs cs.length + nt) ≤ p * (lvS p cs cs.length + nt) := Int.mul_le_mul_of_nonneg_right hp h7
      dsimp only at hbd
      omega
    refine hT.nx _ (wpAny_execs_cons (wpAny_Return_some (wpAny_BinOp (evI C F (by walk_at "pe") fun s7 t7 C7 => wpAny_BinOp (evI C7 F (by walk_at "pe") fun s8 t8 C8 => wpAny_BinOp (evI C8 F (by walk_at "pe") fun s9 t9 C9 =>
      atE C9 F (by walk_at "pe") (.g hx) (.g hd) ⟨by kernel_rfl, by kernel_rfl, by kernel_rfl⟩ h2 (by rfl) (fun s10 C10 => oAdd C10 fun s11 t11 C11 => oMul C11 hy fun s12 t12 C12 => oAdd C12 fun s13 t13 C13 => ?_) (by rfl) (by intro _; rfl)))))))
    have := hQ s13 t13 ⟨C13.same, C13.fr.keep⟩
    rw [hv, Int.add_comm] at this
    exact this
/-! ## Fi2d -/
theorem i2d_call {w : World} {mg mb : Str → Option Value} {prog : Program} {A : Around} {sA : Shared} {R : Result → Shared → Prop} {a : Int} {n : Nat} {t1 t2 : Tok} {M : List (Addr × Obj)}
    (hS : TS sA M) (W : Wd w mg mb (hideAll sA.heap (M.map (·.1)))) (B : Tb mg (hideAll sA.heap (M.map (·.1)))) (hR : Rm A 20) (ha : 0 ≤ a) (ha2 : a < 2 ^ 14) (hn : 1 ≤ n) (hn2 : n ≤ 3)
    (h : ∀ s' l its k M', TC sA s' M M' → sA.heap.get? l = none → s'.heap.get? l = some (listOf its k) → IntsAre its.toList (digs (2 ^ n) a ((Builtin.Int.intBits a + n - 1) / n)) → R (.ok (.ret (.ref l))) s') :
    codeAny (model prog w) A (.call (.ref 42) ⟨[.int a t1, .int n t2], []⟩) R sA := by
  obtain ⟨ts1, ts2, hM, hv1, hv2⟩ := id hS.tm
  refine enterC M W (fun b o e => of_hideAll _ e) (Nat.le_of_eq (hideAll_size _ _)) (fun p hp => ⟨hS.at_ p hp, hideAll_none _ (List.mem_map.mpr ⟨p, hp, rfl⟩)⟩) hS.nd hR
    (by rfl) (by kernel_rfl) (by rfl) (by rfl) (by decide +kernel) (bindsV (ns := [Str.ofString "a"]) (by rfl) (by rfl)) ?_ (fun n => by show [n + 2, n + 1, n].Nodup; simp) (by rfl) (by rfl) (by rfl)
  intro env L A' E Q s1 cells henv hB0 hE hR' hQ hc C
  obtain ⟨oi, od, on, rfl, hi, hd, hn'⟩ := cells3 hc
  have C : Cx (hideAll sA.heap (M.map (·.1))) sA L [Str.ofString "a"] [some (.int a t1)] ((L + 3, oi) :: (L + 2, od) :: (L + 1, on) :: M) s1 := C
  have hd : od.data = .cell none := hd
  have hi : oi.data = .cell none := hi
  have hn' : on.data = .cell (some (.int n t2)) := hn'
  replace hQ := fun l s' its k M' k1 k2 k3 k4 => hQ (.ref l) s' (h s' l its k M' k1 k2 k3 k4)
  clear h hc
  have F : Fm w mg mb (hideAll sA.heap (M.map (·.1))) env L := ⟨W, hE⟩
  have x1 : IsLoc env [Str.ofString "a"] (Str.ofString "a") 0 := by walk_at "loc"
  have y1 : IsCel env (Str.ofString "inner") (L + 3) := by subst henv; exact ⟨.inl (by rfl), by rfl, by decide, by decide⟩
  have y2 : IsCel env (Str.ofString "a_digits") (L + 2) := by subst henv; exact ⟨.inl (by rfl), by rfl, by decide, by decide⟩
  have y3 : IsCel env (Str.ofString "n") (L + 1) := by subst henv; exact ⟨.inl (by rfl), by rfl, by decide, by decide⟩
  have z1 : env.kindOf (Str.ofString "inner") = some .cell := by subst henv; rfl
  have z2 : env.kindOf (Str.ofString "a_digits") = some .cell := by subst henv; rfl
  have g1 : IsGlb env (Str.ofString "len") := by walk_at "glb"
  have hco : env.code = .ref 41 := by subst henv; rfl
  have n0 : (n : Int) ≠ 0 := by omega
  have n1 : (n : Int).natAbs < 1073741824 := by omega
  obtain ⟨m, hm⟩ : ∃ m, m = (Builtin.Int.intBits a + n - 1) / n := ⟨_, rfl⟩
  rw [← hm] at hQ
  have e0 : ((Builtin.Int.intBits a : Int) + n - 1).fdiv n = (m : Int) := by
    rw [hm, show ((Builtin.Int.intBits a : Int) + n - 1) = ((Builtin.Int.intBits a + n - 1 : Nat) : Int) from by omega, Int.fdiv_eq_ediv_of_nonneg _ (by omega)]
    rfl
  obtain ⟨e2, e3⟩ := dm_m ha ha2 hn hn2
  rw [← hm] at e2 e3
  have e5 : a = 0 → m = 0 := fun q => by rw [hm, q, show Builtin.Int.intBits 0 = 0 from rfl, Nat.zero_add]; exact Nat.div_eq_of_lt (by omega)
  clear hm
  refine asC C F z2 y2 (wpAny_BinOp (PyProof.Rows.List_ (splC (cInt C fun s2 tz C2 => spl0 (newL C2 (Nat.le_of_ble_eq_true rfl) fun s3 la C3 => wpAny_BinOp (wpAny_BinOp (wpAny_BinOp (bitL C3 F (by walk_at "pe") (by rfl) (by rfl) fun s4 t4 C4 => evI C4 F (PE.nI (.cel y3 (.n (by k_mem)) hn')) fun s5 t5 C5 => oAdd C5 fun s6 t6 C6 =>
    evI C6 F (by walk_at "pe") fun s7 t7 C7 => oSub C7 fun s8 t8 C8 => evI C8 F (PE.nI (.cel y3 (.n (by k_mem)) hn')) fun s9 t9 C9 => oDiv C9 n0 n1 fun s10 t10 C10 => mulL C10 (C10.get (.head _)) (by rw [e0]; omega) (by rw [e0, Int.toNat_natCast]; show 1 * m ≤ _; omega) (by rw [e0]; omega) fun s11 l C11 => ⟨_, _, 3, _, _, C11, rfl, hd, fun s12 od2 hd2 C12 => ?_⟩))))) (by rfl)))) (by rfl)
  rw [e0, Int.toNat_natCast] at C12
  have C12 := C12.sub (N' := (l, _) :: (L + 3, oi) :: (L + 2, od2) :: (L + 1, on) :: M) (.cons₂ _ (.cons _ (List.Sublist.refl _)))
  clear C
  refine wpAny_execs_cons (nestDef_K (by rfl) (by rfl) (by rfl) (mkFn (N := [_, _, _, _]) (ts := ts1) (clos := [(Str.ofString "n", L + 1), (Str.ofString "inner", L + 3), (Str.ofString "a_digits", L + 2)]) C12 F B (by subst henv; rfl) hco B.c1 hM (by subst henv; exact hv1) fun f c' oc us t ctv doc s13 hcd hcv hnew hold C13 => stC (j := 2) C13 F z1 y1 (by rfl) hi fun s14 oi2 hi2 C14 => ?_))
  have gr1 := tabs_grow hM (fun q => C12.newer (hnew q)) hold
  have hv1' : TV q37 (some (c', oc)) := fun c o e => by cases e; exact ⟨us, t, hcd, by rw [hcv]; subst henv; rfl⟩
  have htm : TM (TF 37 35 4 (some (c', oc)) ++ TF 44 50 4 ts2) := ⟨_, _, .refl _, hv1', hv2⟩
  clear hnew hold hv1
  obtain ⟨M', hM'⟩ : ∃ M', M' = TF 37 35 4 (some (c', oc)) ++ TF 44 50 4 ts2 := ⟨_, rfl⟩
  have hcm : (c', oc) ∈ M' := by rw [hM']; exact .tail _ (.head _)
  change Cx _ _ _ _ _ ((f, _) :: ([_, _, _, _] ++ (TF 37 35 4 (some (c', oc)) ++ TF 44 50 4 ts2))) _ at C14
  rw [← hM'] at C14 gr1 htm
  dsimp only [List.set, List.cons_append, List.nil_append] at C14
  have hq : qualnameIn env (Str.ofString "inner") (Str.ofString "inner") = Str.ofString "_int2digits.<locals>.inner" := by subst henv; rfl
  rw [hq] at C14
  have hcr : ∀ {h : Heap}, h.get? c' = some oc → h.CodeRec (.ref c') (Str.ofString "_int2digits.<locals>.inner") := fun e => by
    obtain ⟨us, t, hd, hv⟩ := hv1' _ _ rfl
    exact ⟨c', oc, us, t, rfl, e, hd, hv⟩
  refine asObj (C14.get (.head _)) fun fo hfo hof => ?_
  rw [← hfo] at C14
  clear C12 C13 z1 z2 e0 C11
  obtain ⟨P, hP⟩ : ∃ P : Heap → Prop, ∀ h, P h ↔ (Wd w mg mb h ∧ h.get? f = some fo ∧ h.CodeRec (.ref c') (Str.ofString "_int2digits.<locals>.inner") ∧ h.get? (L + 3) = some oi2 ∧ h.get? (L + 2) = some od2 ∧ h.get? (L + 1) = some on) := ⟨_, fun _ => Iff.rfl⟩
  have hPk : ∀ h h', (∀ b o, h.get? b = some o → h'.get? b = some o) → P h → P h' := fun h h' k p => by
    obtain ⟨p1, p2, p3, p4, p5, p6⟩ := (hP _).mp p
    exact (hP _).mpr ⟨p1.keeps k, k _ _ p2, p3.keeps k, k _ _ p4, k _ _ p5, k _ _ p6⟩
  have inner : ∀ (d : Nat) {A : Around} {s : Shared} {R : Result → Shared → Prop} {x : Int} {lo hi : Nat} {ds : List Int} {its : Array Value} {k : Nat} {t1 t2 t3 : Tok}, hi - lo ≤ d + 1 → P (hideAll s.heap [l]) → Rm A (d + 1) → s.heap.get? l = some (listOf its k) → IntsAre its.toList ds →
      0 ≤ x → x < (2 ^ n) ^ (hi - lo) → x < 2 ^ 14 → lo < hi → hi ≤ ds.length → ds.length ≤ 16 →
      (∀ s' its', Kp [l] s s' → s'.heap.get? l = some (listOf its' k) → IntsAre its'.toList (ds.take lo ++ digs (2 ^ n) x (hi - lo) ++ ds.drop hi) → R (.ok (.ret .none)) s') →
      codeAny (model prog w) A (.call (.ref f) ⟨[.int x t1, .int lo t2, .int hi t3], []⟩) R s := by
    clear C14 hQ hof
    intro d
    induction d using Nat.strongRecOn with
    | ind d ih =>
    intro A s R x lo hi ds its k t1 t2 t3 hd hp hR hl hI h0 hx hx2 hlo hhi hds h
    obtain ⟨p1, p2, p3, p4, p5, p6⟩ := (hP _).mp hp
    have p2' := p2
    rw [hfo] at p2'
    refine enterG (rest := [Str.ofString "mid", Str.ofString "shift", Str.ofString "upper", Str.ofString "lower"]) [(l, listOf its k)] p1 (fun b o e => of_hideAll _ e) (Nat.le_of_eq (hideAll_size _ _)) (fun p hp => by rw [List.mem_singleton.mp hp]; exact ⟨hl, hideAll_none _ (.head _)⟩) (List.pairwise_singleton _ _) hR
      p2' p3 (by rfl) (by decide +kernel) (by decide +kernel) (by rfl) ?_ (by rfl) (by rfl) (by rfl) (by decide +kernel)
    intro env L2 A' E Q s1 henv hB hE hR' hQ1 hQ2 C
    dsimp only [List.map, List.replicate, List.length, List.append, List.cons_append, List.nil_append] at C
    have F : Fm w mg mb (hideAll s.heap [l]) env L2 := ⟨p1, hE⟩
    have x1 : IsLoc env [Str.ofString "x", Str.ofString "L", Str.ofString "R", Str.ofString "mid", Str.ofString "shift", Str.ofString "upper", Str.ofString "lower"] (Str.ofString "x") 0 := by walk_at "loc"
    have x2 : IsLoc env [Str.ofString "x", Str.ofString "L", Str.ofString "R", Str.ofString "mid", Str.ofString "shift", Str.ofString "upper", Str.ofString "lower"] (Str.ofString "L") 1 := by walk_at "loc"
    have x3 : IsLoc env [Str.ofString "x", Str.ofString "L", Str.ofString "R", Str.ofString "mid", Str.ofString "shift", Str.ofString "upper", Str.ofString "lower"] (Str.ofString "R") 2 := by walk_at "loc"
    have x4 : IsLoc env [Str.ofString "x", Str.ofString "L", Str.ofString "R", Str.ofString "mid", Str.ofString "shift", Str.ofString "upper", Str.ofString "lower"] (Str.ofString "mid") 3 := by walk_at "loc"
    have x5 : IsLoc env [Str.ofString "x", Str.ofString "L", Str.ofString "R", Str.ofString "mid", Str.ofString "shift", Str.ofString "upper", Str.ofString "lower"] (Str.ofString "shift") 4 := by walk_at "loc"
    have x6 : IsLoc env [Str.ofString "x", Str.ofString "L", Str.ofString "R", Str.ofString "mid", Str.ofString "shift", Str.ofString "upper", Str.ofString "lower"] (Str.ofString "upper") 5 := by walk_at "loc"
    have x7 : IsLoc env [Str.ofString "x", Str.ofString "L", Str.ofString "R", Str.ofString "mid", Str.ofString "shift", Str.ofString "upper", Str.ofString "lower"] (Str.ofString "lower") 6 := by walk_at "loc"
    have v1 : IsCel env (Str.ofString "a_digits") (L + 2) := by subst henv; exact ⟨.inr (by rfl), by rfl, by decide, by decide⟩
    have v2 : IsCel env (Str.ofString "inner") (L + 3) := by subst henv; exact ⟨.inr (by rfl), by rfl, by decide, by decide⟩
    have v3 : IsCel env (Str.ofString "n") (L + 1) := by subst henv; exact ⟨.inr (by rfl), by rfl, by decide, by decide⟩
    have hin : interactive env = false := by subst henv; rfl
    clear henv hB
    have hsz : its.size = ds.length := by simpa using hI.length
    refine ifT C F (PT.cmp (by walk_at "pe") (by walk_at "pe") (by rfl) (by with_unfolding_all rfl)) (fun hb s2 T2 h2 C2 => ?_) (fun hb s2 T2 h2 C2 => nextP (h2.nx _ ?_))
    · have hb' : lo + 1 = hi := by have := eq_of_beq hb; omega
      subst hb'
      refine asL (n := lo) (j := 0) C2 F (by walk_at "pe") (PE.nR (.cel v1 (.g p5) hd2)) (by walk_at "pe") (by rfl) (by omega) (by omega) (by omega) (fun s3 t3 C3 => wpAny_execs_cons (wpAny_Return_none (h2.ot (.ret .none) _ (by simp) (hQ1 .none _ (h _ _ ⟨C3.same, fun b o hb e => C3.fr.keep _ _ (hideAll_get _ e hb)⟩ (C3.get (.head _)) ?_))))) (by rfl)
      rw [Nat.add_sub_cancel_left, Int.pow_succ, Int.pow_zero, Int.one_mul] at hx
      rw [Nat.add_sub_cancel_left, digs_one h0 hx, ← set_mid hhi, Array.toList_setIfInBounds, Int.toNat_natCast]
      exact ints_set hI _ _ _
    · have hb' : lo + 1 < hi := by
        have : ¬ ((lo : Int) + 1 = hi) := fun q => by rw [beq_iff_eq.mpr q] at hb; cases hb
        omega
      obtain ⟨mid, hmid⟩ : ∃ mid, mid = (lo + hi) / 2 := ⟨_, rfl⟩
      have m1 : lo < mid := by omega
      have m2 : mid < hi := by omega
      have e1 : opI .RShift ((lo : Int) + hi) 1 = mid := by
        show ((lo : Int) + hi).fdiv (2 ^ 1) = mid
        rw [Int.fdiv_eq_ediv_of_nonneg _ (by decide)]; omega
      obtain ⟨sh, hsh⟩ : ∃ sh, sh = (mid - lo) * n := ⟨_, rfl⟩
      have e2 : ((mid : Int) - lo) * n = sh := by rw [hsh, Int.natCast_mul, Int.natCast_sub (Nat.le_of_lt m1)]
      have eB : ((2 : Int) ^ n) ^ (mid - lo) = 2 ^ sh := by rw [← Int.pow_mul, hsh, Nat.mul_comm]
      have hB : (0 : Int) < 2 ^ n := Int.pow_pos (by decide)
      have hB2 : (0 : Int) < (2 ^ n) ^ (mid - lo) := Int.pow_pos hB
      have e3 : opI .RShift x sh = x / (2 ^ n) ^ (mid - lo) := by
        show x.fdiv (2 ^ (sh : Int).toNat) = _
        rw [Int.toNat_natCast, eB, Int.fdiv_eq_ediv_of_nonneg _ (Int.le_of_lt (eB ▸ hB2))]
      have e4 : opI .BitXor x (opI .LShift (x / (2 ^ n) ^ (mid - lo)) sh) = x % (2 ^ n) ^ (mid - lo) := by
        show Builtin.bitXor x (_ * 2 ^ (sh : Int).toNat) = _
        rw [Int.toNat_natCast, eB]; exact xor_low h0 sh
      have u0 : 0 ≤ x / (2 ^ n) ^ (mid - lo) := Int.ediv_nonneg h0 (Int.le_of_lt hB2)
      have u1 : x / (2 ^ n) ^ (mid - lo) ≤ x := Int.ediv_le_self _ h0
      have u2 : x / (2 ^ n) ^ (mid - lo) < (2 ^ n) ^ (hi - mid) := by
        rw [Int.ediv_lt_iff_lt_mul hB2, ← Int.pow_add, show hi - mid + (mid - lo) = hi - lo from by omega]; exact hx
      have w0 : 0 ≤ x % (2 ^ n) ^ (mid - lo) := Int.emod_nonneg _ (Int.ne_of_gt hB2)
      have w1 : x % (2 ^ n) ^ (mid - lo) ≤ x := by have := Int.emod_add_mul_ediv x ((2 ^ n) ^ (mid - lo)); have := Int.mul_nonneg (Int.le_of_lt hB2) u0; omega
      have w2 : x % (2 ^ n) ^ (mid - lo) < (2 ^ n) ^ (mid - lo) := Int.emod_lt_of_pos _ hB2
      have sh1 : sh ≤ 48 := by rw [hsh]; exact Nat.mul_le_mul (show mid - lo ≤ 16 by omega) hn2
      have n63 : (n : Int).natAbs < 2 ^ 63 := by omega
      generalize hU : x / (2 ^ n) ^ (mid - lo) = U at e3 e4 u0 u1 u2
      generalize hV : x % (2 ^ n) ^ (mid - lo) = V at e4 w0 w1 w2
      clear hsh eB hB2
      refine asI (n := (mid : Int)) C2 F x4 (.castI e1 (.bin (by walk_at "pe") (by walk_at "pe") (show (0 : Int) ≤ 1 from by decide))) (Nat.le_of_ble_eq_true rfl) (fun s3 t3 C3 => ?_) (by rfl)
      refine asI (n := (sh : Int)) C3 F x5 (.castI e2 (PE.mul (by walk_at "pe") (PE.nI (.cel v3 (.g p6) hn')) n63)) (Nat.le_of_ble_eq_true rfl) (fun s4 t4 C4 => ?_) (by rfl)
      refine asI (n := U) C4 F x6 (.castI e3 (.bin (by walk_at "pe") (by walk_at "pe") (Int.natCast_nonneg _))) (Nat.le_of_ble_eq_true rfl) (fun s5 t5 C5 => ?_) (by rfl)
      refine asI (n := V) C5 F x7 (.castI e4 (.bin (by walk_at "pe") (.bin (by walk_at "pe") (by walk_at "pe") ⟨Int.natCast_nonneg _, by omega, by omega⟩) trivial)) (Nat.le_of_ble_eq_true rfl) (fun s6 t6 C6 => ?_) (by rfl)
      dsimp only [List.set] at C6
      clear C2 C3 C4 C5 e1 e2 e3 e4
      have hidn : ∀ a ∈ [l], (hideAll s.heap [l]).get? a = none := fun a ha => hideAll_none _ ha
      refine exS (callF (pvs := [.int V, .int lo, .int mid]) C6 F (.g p2) hfo (PE.nR (.cel v2 (.g p4) hi2)) (by walk_at "pes") fun s7 τ C7 => cal fun R7 hR7 => ih (d - 1) (by omega) (by omega) (hPk _ _ (C7.hid hidn) hp) (hR'.mono (by omega)) (C7.get (.head _)) hI w0 w2 (by omega) m1 (by omega) hds
        fun s8 its8 k8 g8 i8 => hR7 .none s8 ⟨rfl, ?_⟩) hin (by rfl)
      have C8 := C7.modAt (j := 0) rfl k8.same (fun b ob hb e => k8.keep b ob (by simpa using hb) e) g8
      dsimp only [List.set] at C8
      refine exS (callF (pvs := [.int U, .int mid, .int hi]) C8 F (.g p2) hfo (PE.nR (.cel v2 (.g p4) hi2)) (by walk_at "pes") fun s9 τ C9 => cal fun R9 hR9 => ih (d - 1) (by omega) (by omega) (hPk _ _ (C9.hid hidn) hp) (hR'.mono (by omega)) (C9.get (.head _)) i8 u0 u2 (by omega) m2 (by rw [List.length_append, List.length_append, List.length_take, digs_len, List.length_drop]; omega) (by rw [List.length_append, List.length_append, List.length_take, digs_len, List.length_drop]; omega)
        fun s10 its10 k10 g10 i10 => hR9 .none s10 ⟨rfl, nextP ?_⟩) hin (by rfl)
      have C10 := C9.modAt (j := 0) rfl k10.same (fun b ob hb e => k10.keep b ob (by simpa using hb) e) g10
      refine hQ2 _ (h _ its10 ⟨C10.same, fun b o hb e => C10.fr.keep _ _ (hideAll_get _ e hb)⟩ g10 ?_)
      rw [← digs_join hB h0 (Nat.le_of_lt m1) (Nat.le_of_lt m2) hhi rfl, hU, hV]
      exact i10
  show wpAny _ _ (execs _ env) Q E s14
  have hin : interactive env = false := by subst henv; rfl
  have hI0 := ints_flat m 0 tz
  have hsz : (List.replicate m [Value.int 0 tz]).flatten.toArray.size = m := by rw [List.size_toArray, hI0.length, List.length_replicate]
  have hz63 : (List.replicate m [Value.int 0 tz]).flatten.toArray.size < 2 ^ 63 := by rw [hsz]; omega
  refine ifI C14 F (by walk_at "pe") (by rfl) (fun s => ∃ its k, IntsAre its.toList (digs (2 ^ n) a m) ∧ Cx (hideAll sA.heap (M.map (·.1))) sA L [Str.ofString "a"] [some (.int a t1)] ((f, fo) :: (l, listOf its k) :: (L + 3, oi2) :: (L + 2, od2) :: (L + 1, on) :: M') s) (fun h0 s15 T hT C15 => ?_) (fun h0 s15 T hT C15 => ?_) (fun s15 hP15 => ?_)
  · refine exS (callF (pvs := [.int a, .int (0 : Nat), .int m]) C15 F (.n (.head _)) hfo (PE.nR (.cel y1 (.n (by k_mem)) hi2)) (PEs.cons (by walk_at "pe") (PEs.cons PE.int (PEs.cons (.castI (by rw [hsz]) (PE.lenL (.len g1) (PE.nR (.cel y2 (.n (by k_mem)) hd2)) (.n (by k_mem)) hz63 (by rfl))) PEs.nil (by rfl)) (by rfl)) (by rfl)) fun s16 τ C16 => cal fun R16 hR16 =>
      inner 15 (lo := 0) (hi := m) (by omega) ((hP _).mpr ?_) (hR'.mono (by decide)) (C16.get (by k_mem)) hI0 ha (by rw [Nat.sub_zero]; exact e2) ha2 ?_ (by rw [List.length_replicate]; exact Nat.le_refl _) (by rw [List.length_replicate]; exact e3) fun s17 its17 k17 g17 i17 => hR16 .none s17 ⟨rfl, nextP (hT _ ⟨its17, _, ?_, (C16.modAt (j := 1) (by rfl) k17.same (fun b ob hb e => k17.keep b ob (by simpa using hb) e) g17)⟩)⟩) hin (by rfl)
    · have hl := C16.get (a := l) (by k_mem)
      exact ⟨F.W.keeps (C16.hid fun a ha => by rw [List.mem_singleton.mp ha]; exact (C16.nw (l, _) (by k_mem)).2.2), hide_ne (C16.get (by k_mem)) hl (by rw [hfo]; nofun), codeRec_hide (hcr (C16.get (.tail _ (.tail _ (.tail _ (.tail _ (.tail _ hcm))))))) hl,
        hide_ne (C16.get (by k_mem)) hl (by rw [hi2]; nofun), hide_ne (C16.get (by k_mem)) hl (by rw [hd2]; nofun), hide_ne (C16.get (by k_mem)) hl (by rw [hn']; nofun)⟩
    · rcases Nat.eq_zero_or_pos m with q | q
      · rw [q, Int.pow_zero] at e2; omega
      · exact q
    · rw [List.take_zero, List.nil_append, Nat.sub_zero, List.drop_eq_nil_of_le (by rw [List.length_replicate]; exact Nat.le_refl _), List.append_nil] at i17
      exact i17
  · refine nextP (hT _ ⟨_, _, ?_, C15⟩)
    have := e5 h0
    subst this
    exact .nil
  · obtain ⟨its, k, hI, C⟩ := hP15
    refine retR C F (PE.nR (.cel y2 (.n (by k_mem)) hd2)) fun s16 C16 => hQ l s16 its k M' (Cx.tc (N := [_, _, _, _, _]) C16 htm gr1) (Cx.fresh (N := [_, _, _, _, _]) (p := (l, _)) C16 (by k_mem) gr1) (C16.get (by k_mem)) hI
/-! ## Fd2i -/
theorem d2i_call {w : World} {mg mb : Str → Option Value} {prog : Program} {A : Around} {sA : Shared} {R : Result → Shared → Prop} {l : Addr} {its : Array Value} {k n : Nat} {ds : List Int} {t2 : Tok} {M : List (Addr × Obj)}
    (hS : TS sA M) (W : Wd w mg mb (hideAll sA.heap (M.map (·.1)))) (B : Tb mg (hideAll sA.heap (M.map (·.1)))) (hR : Rm A 20) (hlg : (hideAll sA.heap (M.map (·.1))).get? l = some (listOf its k)) (hI : IntsAre its.toList ds) (hdd : ∀ d ∈ ds, 0 ≤ d ∧ d < 2 ^ n) (hz : ds.length ≤ 16) (hn2 : n ≤ 3)
    (h : ∀ s' t M', TC sA s' M M' → R (.ok (.ret (.int (valB (2 ^ n) ds) t))) s') :
    codeAny (model prog w) A (.call (.ref 49) ⟨[.ref l, .int n t2], []⟩) R sA := by
  obtain ⟨ts1, ts2, hM0, hv1, hv2⟩ := id hS.tm
  have hM := hM0.trans List.perm_append_comm
  refine enterC M W (fun b o e => of_hideAll _ e) (Nat.le_of_eq (hideAll_size _ _)) (fun p hp => ⟨hS.at_ p hp, hideAll_none _ (List.mem_map.mpr ⟨p, hp, rfl⟩)⟩) hS.nd hR
    (by rfl) (by kernel_rfl) (by rfl) (by rfl) (by decide +kernel) (bindsV (ns := []) (by rfl) (by rfl)) ?_ (fun n => by show [n + 2, n + 1, n].Nodup; simp) (by rfl) (by rfl) (by rfl)
  intro env L A' E Q s1 cells henv hB0 hE hR' hQ hc C
  obtain ⟨oi, on, od, rfl, hi, hn', hd⟩ := cells3 hc
  have C : Cx (hideAll sA.heap (M.map (·.1))) sA L [] [] ((L + 3, oi) :: (L + 2, on) :: (L + 1, od) :: M) s1 := C
  have hd : od.data = .cell (some (.ref l)) := hd
  have hi : oi.data = .cell none := hi
  have hn' : on.data = .cell (some (.int n t2)) := hn'
  replace hQ := fun s' t M' k1 => hQ (.int (valB (2 ^ n) ds) t) s' (h s' t M' k1)
  clear h hc
  have F : Fm w mg mb (hideAll sA.heap (M.map (·.1))) env L := ⟨W, hE⟩
  obtain ⟨ns, hns⟩ : ∃ ns, ns = ([] : List Str) := ⟨_, rfl⟩
  rw [← hns] at C
  have y1 : IsCel env (Str.ofString "inner") (L + 3) := by subst henv; exact ⟨.inl (by rfl), by rfl, by decide, by decide⟩
  have y2 : IsCel env (Str.ofString "digits") (L + 1) := by subst henv; exact ⟨.inl (by rfl), by rfl, by decide, by decide⟩
  have z1 : env.kindOf (Str.ofString "inner") = some .cell := by subst henv; rfl
  have g1 : IsGlb env (Str.ofString "len") := by walk_at "glb"
  have hco : env.code = .ref 48 := by subst henv; rfl
  have hsz : its.size = ds.length := by simpa using hI.length
  clear hns
  refine wpAny_execs_cons (nestDef_K (by rfl) (by rfl) (by rfl) (mkFn (N := [_, _, _]) (ts := ts2) (clos := [(Str.ofString "n", L + 2), (Str.ofString "inner", L + 3), (Str.ofString "digits", L + 1)]) C F B (by subst henv; rfl) hco B.c2 hM (by subst henv; exact hv2) fun f c' oc us t ctv doc s13 hcd hcv hnew hold C13 => stC (j := 1) C13 F z1 y1 (by rfl) hi fun s14 oi2 hi2 C14 => ?_))
  have gr1 := tabs_grow hM (fun q => C.newer (hnew q)) hold
  have hv2' : TV q44 (some (c', oc)) := fun c o e => by cases e; exact ⟨us, t, hcd, by rw [hcv]; subst henv; rfl⟩
  have htm : TM (TF 44 50 4 (some (c', oc)) ++ TF 37 35 4 ts1) := ⟨_, _, List.perm_append_comm, hv1, hv2'⟩
  clear hnew hold hv2
  obtain ⟨M', hM'⟩ : ∃ M', M' = TF 44 50 4 (some (c', oc)) ++ TF 37 35 4 ts1 := ⟨_, rfl⟩
  have hcm : (c', oc) ∈ M' := by rw [hM']; exact .tail _ (.head _)
  change Cx _ _ _ _ _ ((f, _) :: ([_, _, _] ++ (TF 44 50 4 (some (c', oc)) ++ TF 37 35 4 ts1))) _ at C14
  rw [← hM'] at C14 gr1 htm
  dsimp only [List.set, List.cons_append, List.nil_append] at C14
  have hq : qualnameIn env (Str.ofString "inner") (Str.ofString "inner") = Str.ofString "_digits2int.<locals>.inner" := by subst henv; rfl
  rw [hq] at C14
  have hcr : ∀ {h : Heap}, h.get? c' = some oc → h.CodeRec (.ref c') (Str.ofString "_digits2int.<locals>.inner") := fun e => by
    obtain ⟨us, t, hd, hv⟩ := hv2' _ _ rfl
    exact ⟨c', oc, us, t, rfl, e, hd, hv⟩
  refine asObj (C14.get (.head _)) fun fo hfo hof => ?_
  rw [← hfo] at C14
  clear C C13 z1
  obtain ⟨P, hP⟩ : ∃ P : Heap → Prop, ∀ h, P h ↔ (Wd w mg mb h ∧ h.get? f = some fo ∧ h.CodeRec (.ref c') (Str.ofString "_digits2int.<locals>.inner") ∧ h.get? (L + 3) = some oi2 ∧ h.get? (L + 2) = some on ∧ h.get? (L + 1) = some od ∧ h.get? l = some (listOf its k)) := ⟨_, fun _ => Iff.rfl⟩
  have hPk : ∀ h h', (∀ b o, h.get? b = some o → h'.get? b = some o) → P h → P h' := fun h h' k p => by
    obtain ⟨p1, p2, p3, p4, p5, p6, p7⟩ := (hP _).mp p
    exact (hP _).mpr ⟨p1.keeps k, k _ _ p2, p3.keeps k, k _ _ p4, k _ _ p5, k _ _ p6, k _ _ p7⟩
  have inner : ∀ (d : Nat) {A : Around} {s : Shared} {R : Result → Shared → Prop} {lo hi : Nat} {t2 t3 : Tok}, hi - lo ≤ d + 1 → P s.heap → Rm A (d + 1) → lo < hi → hi ≤ ds.length →
      (∀ s' t, Up s s' → R (.ok (.ret (.int (valB (2 ^ n) (cutL ds lo hi)) t))) s') →
      codeAny (model prog w) A (.call (.ref f) ⟨[.int lo t2, .int hi t3], []⟩) R s := by
    clear C14 hQ hof
    intro d
    induction d using Nat.strongRecOn with
    | ind d ih =>
    intro A s R lo hi t2 t3 hd' hp hR hlo hhi h
    obtain ⟨p1, p2, p3, p4, p5, p6, p7⟩ := (hP _).mp hp
    have p2' := p2
    rw [hfo] at p2'
    refine enterG (rest := [Str.ofString "mid", Str.ofString "shift"]) [] p1 (fun b o e => e) (Nat.le_refl _) (fun p hp => nomatch hp) List.nodup_nil hR
      p2' p3 (by rfl) (by decide +kernel) (by decide +kernel) (by rfl) ?_ (by rfl) (by rfl) (by rfl) (by decide +kernel)
    intro env L2 A' E Q s1 henv hB hE hR' hQ1 hQ2 C
    dsimp only [List.map, List.replicate, List.length, List.append, List.cons_append, List.nil_append] at C
    have F : Fm w mg mb s.heap env L2 := ⟨p1, hE⟩
    have x2 : IsLoc env [Str.ofString "L", Str.ofString "R", Str.ofString "mid", Str.ofString "shift"] (Str.ofString "L") 0 := by walk_at "loc"
    have x3 : IsLoc env [Str.ofString "L", Str.ofString "R", Str.ofString "mid", Str.ofString "shift"] (Str.ofString "R") 1 := by walk_at "loc"
    have x4 : IsLoc env [Str.ofString "L", Str.ofString "R", Str.ofString "mid", Str.ofString "shift"] (Str.ofString "mid") 2 := by walk_at "loc"
    have x5 : IsLoc env [Str.ofString "L", Str.ofString "R", Str.ofString "mid", Str.ofString "shift"] (Str.ofString "shift") 3 := by walk_at "loc"
    have v1 : IsCel env (Str.ofString "digits") (L + 1) := by subst henv; exact ⟨.inr (by rfl), by rfl, by decide, by decide⟩
    have v2 : IsCel env (Str.ofString "inner") (L + 3) := by subst henv; exact ⟨.inr (by rfl), by rfl, by decide, by decide⟩
    have v3 : IsCel env (Str.ofString "n") (L + 2) := by subst henv; exact ⟨.inr (by rfl), by rfl, by decide, by decide⟩
    clear henv hB
    refine ifT C F (PT.cmp (by walk_at "pe") (by walk_at "pe") (by rfl) (by with_unfolding_all rfl)) (fun hb s2 T2 h2 C2 => ?_) (fun hb s2 T2 h2 C2 => nextP (h2.nx _ ?_))
    · have hb' : lo + 1 = hi := by have := eq_of_beq hb; omega
      subst hb'
      refine retP (pv := .int (ds.getD lo 0)) C2 F (PE.itI (n := lo) (PE.nR (.cel v1 (.g p6) hd)) (.g p7) (by walk_at "pe") (by omega) (by omega) (ints_at hI hhi) (by rfl)) fun s3 t3 C3 => h2.ot (.ret _) _ (by simp) (hQ1 _ _ ?_)
      have := h s3 t3 ⟨C3.same, C3.fr.keep⟩
      rw [cutL_one hhi] at this
      simpa [valB] using this
    · have hb' : lo + 1 < hi := by
        have : ¬ ((lo : Int) + 1 = hi) := fun q => by rw [beq_iff_eq.mpr q] at hb; cases hb
        omega
      obtain ⟨mid, hmid⟩ : ∃ mid, mid = (lo + hi) / 2 := ⟨_, rfl⟩
      have m1 : lo < mid := by omega
      have m2 : mid < hi := by omega
      have e1 : opI .RShift ((lo : Int) + hi) 1 = mid := by
        show ((lo : Int) + hi).fdiv (2 ^ 1) = mid
        rw [Int.fdiv_eq_ediv_of_nonneg _ (by decide)]; omega
      obtain ⟨sh, hsh⟩ : ∃ sh, sh = (mid - lo) * n := ⟨_, rfl⟩
      have e2 : ((mid : Int) - lo) * n = sh := by rw [hsh, Int.natCast_mul, Int.natCast_sub (Nat.le_of_lt m1)]
      have eB : ((2 : Int) ^ n) ^ (mid - lo) = 2 ^ sh := by rw [← Int.pow_mul, hsh, Nat.mul_comm]
      have hB : (0 : Int) < 2 ^ n := Int.pow_pos (by decide)
      have sh1 : sh ≤ 48 := by rw [hsh]; exact Nat.mul_le_mul (show mid - lo ≤ 16 by omega) hn2
      have n63 : (n : Int).natAbs < 2 ^ 63 := by omega
      have bd := val_bd hB (cutL ds mid hi) fun d hd => hdd d (cutL_mem hd)
      have bd2 : ((2 : Int) ^ n) ^ (cutL ds mid hi).length ≤ 2 ^ 48 := by
        rw [← Int.pow_mul]; refine ipow_le (by decide) ?_
        rw [cutL_len hhi]; exact Nat.le_trans (Nat.mul_le_mul hn2 (show hi - mid ≤ 16 by omega)) (by decide)
      have ev : valB (2 ^ n) (cutL ds lo hi) = valB (2 ^ n) (cutL ds mid hi) * 2 ^ sh + valB (2 ^ n) (cutL ds lo mid) := by
        rw [cutL_app (Nat.le_of_lt m1) (Nat.le_of_lt m2), val_app, cutL_len (by omega), eB, Int.mul_comm, Int.add_comm]
      rw [ev] at h
      refine asI (n := (mid : Int)) C2 F x4 (.castI e1 (.bin (by walk_at "pe") (by walk_at "pe") (show (0 : Int) ≤ 1 from by decide))) (Nat.le_of_ble_eq_true rfl) (fun s3 t3 C3 => ?_) (by rfl)
      refine asI (n := (sh : Int)) C3 F x5 (.castI e2 (PE.mul (by walk_at "pe") (PE.nI (.cel v3 (.g p5) hn')) n63)) (Nat.le_of_ble_eq_true rfl) (fun s4 t4 C4 => ?_) (by rfl)
      dsimp only [List.set] at C4
      clear C2 C3 e1 e2
      refine wpAny_execs_cons (wpAny_Return_some (wpAny_BinOp (wpAny_BinOp (callF (pvs := [.int mid, .int hi]) C4 F (.g p2) hfo (PE.nR (.cel v2 (.g p4) hi2)) (by walk_at "pes") fun s5 τ C5 => cal fun R5 hR5 => ih (d - 1) (by omega) (by omega) (hPk _ _ C5.fr.keep hp) (hR'.mono (by omega)) m2 hhi fun s6 t6 u6 => hR5 _ _ (evI (C5.up u6) F (by walk_at "pe") fun s7 t7 C7 =>
        oShl C7 (Int.natCast_nonneg _) (by omega) (by omega) fun s8 t8 C8 => callF (pvs := [.int lo, .int mid]) C8 F (.g p2) hfo (PE.nR (.cel v2 (.g p4) hi2)) (by walk_at "pes") fun s9 τ C9 => cal fun R9 hR9 => ih (d - 1) (by omega) (by omega) (hPk _ _ C9.fr.keep hp) (hR'.mono (by omega)) m1 (by omega) fun s10 t10 u10 => hR9 _ _ (oAdd (C9.up u10) fun s11 t11 C11 => ?_))))))
      rw [Int.toNat_natCast]
      exact hQ1 _ _ (h _ _ ⟨C11.same, C11.fr.keep⟩)
  show wpAny _ _ (execs _ env) Q E s14
  have z63 : its.size < 2 ^ 63 := by omega
  have fin : ∀ s t, Cx (hideAll sA.heap (M.map (·.1))) sA L ns [] ((f, fo) :: (L + 3, oi2) :: (L + 2, on) :: (L + 1, od) :: M') s → Q (.ret (.int (valB (2 ^ n) ds) t)) s := fun s t C =>
    hQ s t M' (Cx.tc (N := [_, _, _, _]) C htm gr1)
  refine wpAny_execs_cons (wpAny_Return_some (ifE (PyProof.Rows.isTrue_plain (evR C14 F (PE.nR (.cel y2 (.n (by k_mem)) hd)) fun s15 C15 => wpAny_truthy_list ⟨_, C15.fr.keep _ _ hlg, rfl, _, rfl⟩ (by omega) ?_) (by rfl))))
  have C16 := (C15.toks (s15.toks + 1 + 1))
  refine ⟨fun hb => callF (pvs := [.int (0 : Nat), .int its.size]) C16 F (.n (.head _)) hfo (PE.nR (.cel y1 (.n (by k_mem)) hi2)) (PEs.cons PE.int (PEs.cons (PE.lenL (.len g1) (PE.nR (.cel y2 (.n (by k_mem)) hd)) (.g hlg) z63 (by rfl)) PEs.nil (by rfl)) (by rfl)) fun s17 τ C17 => cal fun R17 hR17 =>
    inner 15 (by omega) ((hP _).mpr ⟨C17.wd W, C17.get (by k_mem), hcr (C17.get (.tail _ (.tail _ (.tail _ (.tail _ hcm))))), C17.get (by k_mem), C17.get (by k_mem), C17.get (by k_mem), C17.fr.keep _ _ hlg⟩) (hR'.mono (by decide)) ?_ (by omega) fun s18 t18 u18 => hR17 _ _ ?_, fun hb => cInt C16 fun s17 t17 C17 => ?_⟩
  · have : its.isEmpty = false := by simpa using hb
    have : its.size ≠ 0 := by simpa using this
    omega
  · have e : cutL ds 0 its.size = ds := by rw [hsz, cutL, List.drop_zero, Nat.sub_zero, List.take_length]
    rw [e]
    exact fin _ _ (C17.up u18)
  · have : its.isEmpty = true := by simpa using hb
    have h0 : its.size = 0 := by simpa using this
    have : ds = [] := List.length_eq_zero_iff.mp (by omega)
    have := fin _ t17 C17
    rw [‹ds = []›] at this
    exact this
/-! ## Fdm -/
theorem d1_call {w : World} {mg mb : Str → Option Value} {prog : Program} {A : Around} {sA : Shared} {R : Result → Shared → Prop} {a b : Int} {n : Nat} {t1 t2 t3 : Tok}
    (W : Wd w mg mb sA.heap) (hR : Rm A 1) (ha : 0 ≤ a) (ha2 : a < 2 ^ 20) (hb : 1 ≤ b) (hb2 : b < 2 ^ 20)
    (h : ∀ s' p t1 t2, Up sA s' → sA.heap.get? p = none → s'.heap.get? p = some (tupOf #[.int (a / b) t1, .int (a % b) t2]) → R (.ok (.ret (.ref p))) s') :
    codeAny (model prog w) A (.call (.ref 28) ⟨[.int a t1, .int b t2, .int n t3], []⟩) R sA := by
  refine enter (rest := [Str.ofString "pad", Str.ofString "half_n", Str.ofString "mask", Str.ofString "b1", Str.ofString "b2", Str.ofString "q1", Str.ofString "r", Str.ofString "q2"]) W hR (by rfl) (by kernel_rfl) (by rfl) (by decide +kernel) (by decide +kernel) (by rfl) ?_ (by rfl) (by rfl) (by rfl) (by decide +kernel)
  intro env L A' E Q s1 henv hB hE hR' hQ C
  dsimp only [List.map, List.replicate, List.length, List.append, List.cons_append, List.nil_append] at C
  have F : Fm w mg mb sA.heap env L := ⟨W, hE⟩
  have x1 : IsLoc env [Str.ofString "a", Str.ofString "b", Str.ofString "n", Str.ofString "pad", Str.ofString "half_n", Str.ofString "mask", Str.ofString "b1", Str.ofString "b2", Str.ofString "q1", Str.ofString "r", Str.ofString "q2"] (Str.ofString "a") 0 := by walk_at "loc"
  have x2 : IsLoc env [Str.ofString "a", Str.ofString "b", Str.ofString "n", Str.ofString "pad", Str.ofString "half_n", Str.ofString "mask", Str.ofString "b1", Str.ofString "b2", Str.ofString "q1", Str.ofString "r", Str.ofString "q2"] (Str.ofString "b") 1 := by walk_at "loc"
  have x3 : IsLoc env [Str.ofString "a", Str.ofString "b", Str.ofString "n", Str.ofString "pad", Str.ofString "half_n", Str.ofString "mask", Str.ofString "b1", Str.ofString "b2", Str.ofString "q1", Str.ofString "r", Str.ofString "q2"] (Str.ofString "n") 2 := by walk_at "loc"
  have g1 : IsGlb env (Str.ofString "_DIV_LIMIT") := by walk_at "glb"
  have g2 : IsGlb env (Str.ofString "divmod") := by walk_at "glb"
  clear henv hB
  have hbl := bits_le ha ha2
  refine execsT fun T hT => wpAny_If (wpAny_isTrue_Compare1 (wpAny_BinOp (bitL C F (by walk_at "pe") (by rfl) (by rfl) fun s2 t2 C2 => evI C2 F (by walk_at "pe") fun s3 t3 C3 => oSub C3 fun s4 t4 C4 => nm_DIV_LIMIT (C4.wd W) hE g1 (wpCmpI (c := true) ?_ (wpAny_truthy_bool ?_)))) (by rfl))
  · show some (decide _) = _
    rw [decide_eq_true (by omega)]
  · refine wpAny_execs_cons (wpAny_Return_some (callP (pvs := [.int a, .int b]) C4 F (.b _) (fun W q => nm_divmod W hE g2 q) (by walk_at "pes") fun s5 τ C5 => PyProof.Rows.divmod_N C5.fr C5.nw (by omega) (fun h' F' N' => ?_) (.inl (PyProof.noPylong_small (by omega)))))
    have e := (N' _ (.head _)).1
    rw [Int.fdiv_eq_ediv_of_nonneg _ (by omega), Int.fmod_eq_emod_of_nonneg _ (by omega)] at e
    exact hT.ot (.ret _) _ (by simp) (hQ _ _ (h _ _ _ _ ⟨C5.same.trans ⟨rfl, rfl, rfl⟩, F'.keep⟩ (C5.ne (fresh_size _)).2.1 e))

theorem dp_call {w : World} {mg mb : Str → Option Value} {prog : Program} {A : Around} {sA : Shared} {R : Result → Shared → Prop} {a b : Int} {t1 t2 : Tok} {M : List (Addr × Obj)}
    (hS : TS sA M) (W : Wd w mg mb (hideAll sA.heap (M.map (·.1)))) (B : Tb mg (hideAll sA.heap (M.map (·.1)))) (hR : Rm A 21) (ha : 0 ≤ a) (ha2 : a < 2 ^ 14) (hb : 2 ≤ b) (hb2 : b ≤ 7)
    (h : ∀ s' p t1 t2 M', TC sA s' M M' → sA.heap.get? p = none → s'.heap.get? p = some (tupOf #[.int (a / b) t1, .int (a % b) t2]) → R (.ok (.ret (.ref p))) s') :
    codeAny (model prog w) A (.call (.ref 56) ⟨[.int a t1, .int b t2], []⟩) R sA := by
  refine enterH (rest := [Str.ofString "n", Str.ofString "a_digits", Str.ofString "r", Str.ofString "q_digits", Str.ofString "a_digit", Str.ofString "q_digit", Str.ofString "q"]) M W (fun b o e => of_hideAll _ e) (Nat.le_of_eq (hideAll_size _ _))
    (fun p hp => ⟨hS.at_ p hp, hideAll_none _ (List.mem_map.mpr ⟨p, hp, rfl⟩)⟩) hS.nd hR (by rfl) (by kernel_rfl) (by rfl) (by decide +kernel) (by decide +kernel) (by rfl) ?_ (by rfl) (by rfl) (by rfl) (by decide +kernel)
  intro env L A' E Q s1 henv hB hE hR' hQ _ C
  dsimp only [List.map, List.replicate, List.length, List.append, List.cons_append, List.nil_append] at C
  have F : Fm w mg mb (hideAll sA.heap (M.map (·.1))) env L := ⟨W, hE⟩
  have x1 : IsLoc env [Str.ofString "a", Str.ofString "b", Str.ofString "n", Str.ofString "a_digits", Str.ofString "r", Str.ofString "q_digits", Str.ofString "a_digit", Str.ofString "q_digit", Str.ofString "q"] (Str.ofString "a") 0 := by walk_at "loc"
  have x2 : IsLoc env [Str.ofString "a", Str.ofString "b", Str.ofString "n", Str.ofString "a_digits", Str.ofString "r", Str.ofString "q_digits", Str.ofString "a_digit", Str.ofString "q_digit", Str.ofString "q"] (Str.ofString "b") 1 := by walk_at "loc"
  have x3 : IsLoc env [Str.ofString "a", Str.ofString "b", Str.ofString "n", Str.ofString "a_digits", Str.ofString "r", Str.ofString "q_digits", Str.ofString "a_digit", Str.ofString "q_digit", Str.ofString "q"] (Str.ofString "n") 2 := by walk_at "loc"
  have x4 : IsLoc env [Str.ofString "a", Str.ofString "b", Str.ofString "n", Str.ofString "a_digits", Str.ofString "r", Str.ofString "q_digits", Str.ofString "a_digit", Str.ofString "q_digit", Str.ofString "q"] (Str.ofString "a_digits") 3 := by walk_at "loc"
  have x5 : IsLoc env [Str.ofString "a", Str.ofString "b", Str.ofString "n", Str.ofString "a_digits", Str.ofString "r", Str.ofString "q_digits", Str.ofString "a_digit", Str.ofString "q_digit", Str.ofString "q"] (Str.ofString "r") 4 := by walk_at "loc"
  have x6 : IsLoc env [Str.ofString "a", Str.ofString "b", Str.ofString "n", Str.ofString "a_digits", Str.ofString "r", Str.ofString "q_digits", Str.ofString "a_digit", Str.ofString "q_digit", Str.ofString "q"] (Str.ofString "q_digits") 5 := by walk_at "loc"
  have x7 : IsLoc env [Str.ofString "a", Str.ofString "b", Str.ofString "n", Str.ofString "a_digits", Str.ofString "r", Str.ofString "q_digits", Str.ofString "a_digit", Str.ofString "q_digit", Str.ofString "q"] (Str.ofString "a_digit") 6 := by walk_at "loc"
  have x8 : IsLoc env [Str.ofString "a", Str.ofString "b", Str.ofString "n", Str.ofString "a_digits", Str.ofString "r", Str.ofString "q_digits", Str.ofString "a_digit", Str.ofString "q_digit", Str.ofString "q"] (Str.ofString "q_digit") 7 := by walk_at "loc"
  have x9 : IsLoc env [Str.ofString "a", Str.ofString "b", Str.ofString "n", Str.ofString "a_digits", Str.ofString "r", Str.ofString "q_digits", Str.ofString "a_digit", Str.ofString "q_digit", Str.ofString "q"] (Str.ofString "q") 8 := by walk_at "loc"
  have g1 : IsGlb env (Str.ofString "_int2digits") := by walk_at "glb"
  have g2 : IsGlb env (Str.ofString "reversed") := by walk_at "glb"
  have g3 : IsGlb env (Str.ofString "_div2n1n") := by walk_at "glb"
  have g4 : IsGlb env (Str.ofString "_digits2int") := by walk_at "glb"
  have hin : interactive env = false := by subst henv; rfl
  clear henv hB
  obtain ⟨n, hn⟩ : ∃ n, n = Builtin.Int.intBits b := ⟨_, rfl⟩
  have n1 : 1 ≤ n := hn ▸ bits_pos (by omega)
  have n2 : n ≤ 3 := hn ▸ bits_le (by omega) (show b < 2 ^ 3 by omega)
  have B1 : (2 : Int) ^ n ≤ 8 := ipow_le (b := 2) (by decide) n2
  have hB : (0 : Int) < 2 ^ n := Int.pow_pos (by decide)
  obtain ⟨m1, m2⟩ := dm_m ha ha2 n1 n2
  obtain ⟨m, hm⟩ : ∃ m, m = (Builtin.Int.intBits a + n - 1) / n := ⟨_, rfl⟩
  rw [← hm] at m1 m2
  refine asE C F x3 (bitL C F (by walk_at "pe") (by rfl) (by rfl) fun s2 tn C2 => ⟨_, _, C2, Nat.le_of_ble_eq_true rfl, fun s3 C3 => ?_⟩) (by rfl)
  rw [← hn] at C3
  refine asE C3 F x4 (callP (pvs := [.int a, .int n]) C3 F pl_42 (fun W q => nm_int2digits W hE g1 q) (by walk_at "pes") fun s4 τ C4 => cal fun R4 hR4 => i2d_call (M := M) (Cx.tabs (N := []) C4 hS.tm) (W.keeps (Cx.hidM (N := []) C4)) (B.keeps (Cx.hidM (N := []) C4)) (hR'.mono (by decide)) ha ha2 n1 n2 fun s5 la aits ka M1 t5 f5 g5 I5 => hR4 _ _
    ⟨_, _, Cx.callR (N := []) C4 t5 f5 g5 (by nofun), Nat.le_of_ble_eq_true rfl, fun s6 C6 => ?_⟩) (by rfl)
  rw [← hm] at I5
  clear hn hm C C2 C3
  have gr1 := Gr.step C4 (.refl _ _) t5.gr
  have tm1 := t5.ts.tm
  clear C4 t5
  refine asI C6 F x5 (by walk_at "pe") (Nat.le_of_ble_eq_true rfl) (fun s7 t7 C7 => ?_) (by rfl)
  refine asE C7 F x6 (PyProof.Rows.List_ (spl0 (newL C7 (Nat.zero_le _) fun s8 lq C8 => ⟨_, _, C8, Nat.le_of_ble_eq_true rfl, fun s9 C9 => ?_⟩))) (by rfl)
  dsimp only [List.set, List.nil_append] at C9
  clear C6 C7
  have hlen := digs_len (2 ^ n) m a
  have hval := val_digs hB m a ha m1
  have hmem := digs_mem hB m a
  generalize digs (2 ^ n) a m = ds at I5 hlen hval hmem
  have hsz : aits.size = m := by rw [← hlen]; simpa using I5.length
  refine forS (fun T F' hT => callP (pvs := [.ref la]) C9 F (.t _) (fun W q => nm_reversed W hE g2 q) (by walk_at "pes") fun s10 τ C10 => ?_) (by intro _; rfl)
  obtain ⟨J, hJ⟩ : ∃ J : Nat → List (Option Value) → List (Addr × Obj) → Prop, ∀ i vs N, J i vs N ↔ ∃ r qs qits kq tr dg qd, DmI (2 ^ n) b (ds.reverse.take i) r qs ∧ IntsAre qits.toList qs ∧
    vs = [some (.int a t1), some (.int b t2), some (.int n tn), some (.ref la), some (.int r tr), some (.ref lq), dg, qd, none] ∧ N = (lq, listOf qits kq) :: (la, listOf aits ka) :: M1 := ⟨_, fun _ _ _ => Iff.rfl⟩
  refine it_rev (k := ka) hR'.hh C10 hE x7 (.n (by k_mem)) J (.inr ⟨_, fun i vs N q => by obtain ⟨_, _, _, _, _, _, _, _, _, _, rfl⟩ := (hJ _ _ _).mp q; exact .tail _ (.head _)⟩) ((hJ _ _ _).mpr ⟨0, [], #[], _, t7, none, none, ⟨(Int.zero_emod b).symm, (Int.zero_ediv b).symm, (fun q hq => by cases hq), rfl⟩, .nil, rfl, rfl⟩) ?_ ?_ ?_
  · intro i vs N q; obtain ⟨_, _, _, _, _, _, _, _, _, rfl, rfl⟩ := (hJ _ _ _).mp q; exact Nat.le_of_ble_eq_true rfl
  · clear hQ C10 C9 hT
    intro i v vs N s I o E' T' hi hv q C hT
    obtain ⟨r, qs, qits, kq, tr, dg, qd, hD, hQI, rfl, rfl⟩ := (hJ _ _ _).mp q
    dsimp only [List.set] at C
    rw [hsz] at hi hv
    obtain ⟨td, hv2⟩ := ints_at I5 (i := m - 1 - i) (by omega)
    rw [hv2] at hv; cases hv
    have hj : ds.reverse[i]? = some (ds.getD (m - 1 - i) 0) := by
      rw [List.getElem?_reverse (by omega), hlen, List.getD_eq_getElem?_getD, List.getElem?_eq_getElem (by omega)]; rfl
    have htk : ds.reverse.take (i + 1) = ds.reverse.take i ++ [ds.getD (m - 1 - i) 0] := by rw [List.take_add_one, hj]; rfl
    have hd := hmem _ (List.mem_reverse.mp (List.mem_of_getElem? hj))
    generalize ds.getD (m - 1 - i) 0 = d at C htk hd
    obtain ⟨hD', r0, r1, r2⟩ := hD.step (by omega) hd
    have r3 : b * 2 ^ n ≤ 7 * 8 := Int.mul_le_mul hb2 B1 (Int.le_of_lt hB) (by omega)
    have r4 : 0 ≤ r * 2 ^ n + d := Int.add_nonneg (Int.mul_nonneg r0 (Int.le_of_lt hB)) hd.1
    have hql : qs.length ≤ m := by rw [hD.l, List.length_take, List.length_reverse]; omega
    have hqs : qits.size = qs.length := by simpa using hQI.length
    refine as2 hR'.hh F x8 x5 (by rfl) (by rfl) (callP (pvs := [.int (r * 2 ^ n + d), .int b, .int n]) C F pl_28 (fun W q => nm_div2n1n W hE g3 q) (PEs.cons (PE.add (.castI (by show r * 2 ^ (n : Int).toNat = _; rw [Int.toNat_natCast]) (.bin (op := .LShift) (by walk_at "pe") (by walk_at "pe") ⟨Int.natCast_nonneg _, by omega, by omega⟩)) (by walk_at "pe")) (by walk_at "pes") (by rfl)) fun s2 τ C2 => cal fun R2 hR2 =>
      d1_call (C2.wd W) (hR'.mono (by decide)) r4 (by omega) (by omega) (by omega) fun s3 p u1 u2 up fr gp => hR2 _ _ ⟨p, _, _, _, _, rfl, .n (.head _), C2.add fr up gp, Nat.le_of_ble_eq_true rfl, Nat.le_of_ble_eq_true rfl, fun s4 C4 => ?_⟩)
    replace C4 := C4.drop
    dsimp only [List.set] at C4
    refine appS (pv := .int ((r * 2 ^ n + d) / b)) (j := 1) C4 F (by walk_at "pe") (by walk_at "pe") (by rfl) (by rw [hqs]; simp only [sizeLine]; omega) (by rfl) (by rfl) (by rfl) hin fun s5 t5 C5 => nextP (hT.nx _ _ _ ((hJ _ _ _).mpr ⟨_, qs ++ [(r * 2 ^ n + d) / b], _, _, _, _, _, ?_, ?_, rfl, rfl⟩) C5)
    · rw [htk]; exact hD'
    · rw [Array.toList_push]; exact ints_app hQI (.cons _ _ .nil)
  · intro vs N s q C
    obtain ⟨r, qs, qits, kq, tr, dg, qd, hD, hQI, rfl, rfl⟩ := (hJ _ _ _).mp q
    rw [hsz, List.take_of_length_le (by rw [List.length_reverse]; omega)] at hD
    have hql : qs.length = m := by rw [hD.l, List.length_reverse, hlen]
    have hqs : qits.size = qs.length := by simpa using hQI.length
    have er := hD.r
    have eq := hD.q
    rw [topV_rev, hval] at er eq
    rw [← List.reverse_reverse qs, topV_rev] at eq
    refine hT.nx _ (revS (j := 0) C F (by walk_at "pe") (by rfl) (by rw [hqs]; simp only [sizeLine]; omega) (by rfl) (by rfl) hin fun s2 C2 => ?_)
    dsimp only [List.set] at C2
    have hQR : IntsAre qits.toList.reverse.toArray.toList qs.reverse := by rw [List.toList_toArray]; exact hQI.reverse
    refine asE C2 F x9 (callP (pvs := [.ref lq, .int n]) C2 F pl_49 (fun W q => nm_digits2int W hE g4 q) (by walk_at "pes") fun s3 τ C3 => cal fun R3 hR3 => d2i_call (M := M1) (ds := qs.reverse) (Cx.tabs (N := [_, _]) C3 tm1) (W.keeps (Cx.hidM (N := [_, _]) C3)) (B.keeps (Cx.hidM (N := [_, _]) C3)) (hR'.mono (by decide)) (Cx.hidN (N := [_, _]) (p := (lq, _)) C3 (.head _)) hQR
      (fun d hd => hD.m d (List.mem_reverse.mp hd)) (by rw [List.length_reverse]; omega) n2 fun s4 t4 M2 T4 => hR3 _ _ ⟨_, _, Cx.call (N := [_, _]) C3 T4, Nat.le_of_ble_eq_true rfl, fun s5 C5 => ?_⟩) (by rfl)
    dsimp only [List.set, List.cons_append, List.nil_append] at C5
    rw [eq, er] at C5
    refine retT (pvs := [.int (a / b), .int (a % b)]) C5 F (by walk_at "pes") (fun _ => Nat.le_of_ble_eq_true rfl) fun s6 p τ C6 => ?_
    have gr2 := Gr.step C3 gr1 T4.gr
    exact hQ (.ref p) _ (h _ p _ _ M2 (Cx.tc (N := [_, _, _]) C6 T4.ts.tm gr2) (Cx.fresh (N := [_, _, _]) (p := (p, _)) C6 (.head _) gr2) (C6.get (.head _)))
/-! ## Fim -/
theorem neg_dm {x b : Int} (hb : 0 < b) : x / b = -((-x - 1) / b) - 1 ∧ x % b = b + (-((-x - 1) % b) - 1) := by
  have h1 := Int.mul_ediv_add_emod (-x - 1) b
  have h2 := Int.emod_nonneg (-x - 1) (show b ≠ 0 by omega)
  have h3 := Int.emod_lt_of_pos (-x - 1) hb
  refine (Int.ediv_emod_unique hb).mpr ⟨?_, by omega, by omega⟩
  rw [Int.mul_sub, Int.mul_neg, Int.mul_one]; omega
theorem im_step {w : World} {mg mb : Str → Option Value} {prog : Program} {A : Around} {sA : Shared} {R : Result → Shared → Prop} {x b : Int} {t1 t2 : Tok} {M : List (Addr × Obj)}
    (hS : TS sA M) (W : Wd w mg mb (hideAll sA.heap (M.map (·.1)))) (B : Tb mg (hideAll sA.heap (M.map (·.1)))) (hR : Rm A 22) (hx : x < 2 ^ 14) (hb : 2 ≤ b) (hb2 : b ≤ 7)
    (rec : x < 0 → ∀ {A' : Around} {s : Shared} {R : Result → Shared → Prop} {t1 t2 : Tok}, TS s M → Wd w mg mb (hideAll s.heap (M.map (·.1))) → Tb mg (hideAll s.heap (M.map (·.1))) → Rm A' 22 →
      (∀ s' p t1 t2 M', TC s s' M M' → s.heap.get? p = none → s'.heap.get? p = some (tupOf #[.int ((-x - 1) / b) t1, .int ((-x - 1) % b) t2]) → R (.ok (.ret (.ref p))) s') → codeAny (model prog w) A' (.call (.ref 63) ⟨[.int (-x - 1) t1, .int b t2], []⟩) R s)
    (hR2 : x < 0 → Rm A 23)
    (h : ∀ s' p t1 t2 M', TC sA s' M M' → sA.heap.get? p = none → s'.heap.get? p = some (tupOf #[.int (x / b) t1, .int (x % b) t2]) → R (.ok (.ret (.ref p))) s') :
    codeAny (model prog w) A (.call (.ref 63) ⟨[.int x t1, .int b t2], []⟩) R sA := by
  obtain ⟨k, hk, hk2⟩ : ∃ k, Rm A (k + 1) ∧ (21 ≤ k ∧ (x < 0 → 22 ≤ k)) := by
    by_cases q : x < 0
    · exact ⟨22, hR2 q, by decide, fun _ => by decide⟩
    · exact ⟨21, hR, by decide, fun h => absurd h q⟩
  refine enterH (rest := [Str.ofString "q", Str.ofString "r"]) M W (fun b o e => of_hideAll _ e) (Nat.le_of_eq (hideAll_size _ _))
    (fun p hp => ⟨hS.at_ p hp, hideAll_none _ (List.mem_map.mpr ⟨p, hp, rfl⟩)⟩) hS.nd hk (by rfl) (by kernel_rfl) (by rfl) (by decide +kernel) (by decide +kernel) (by rfl) ?_ (by rfl) (by rfl) (by rfl) (by decide +kernel)
  intro env L A' E Q s1 henv hB hE hR' hQ _ C
  dsimp only [List.map, List.replicate, List.length, List.append, List.cons_append, List.nil_append] at C
  have F : Fm w mg mb (hideAll sA.heap (M.map (·.1))) env L := ⟨W, hE⟩
  have x1 : IsLoc env [Str.ofString "a", Str.ofString "b", Str.ofString "q", Str.ofString "r"] (Str.ofString "a") 0 := by walk_at "loc"
  have x2 : IsLoc env [Str.ofString "a", Str.ofString "b", Str.ofString "q", Str.ofString "r"] (Str.ofString "b") 1 := by walk_at "loc"
  have x3 : IsLoc env [Str.ofString "a", Str.ofString "b", Str.ofString "q", Str.ofString "r"] (Str.ofString "q") 2 := by walk_at "loc"
  have x4 : IsLoc env [Str.ofString "a", Str.ofString "b", Str.ofString "q", Str.ofString "r"] (Str.ofString "r") 3 := by walk_at "loc"
  have g1 : IsGlb env (Str.ofString "int_divmod") := by walk_at "glb"
  have g2 : IsGlb env (Str.ofString "_divmod_pos") := by walk_at "glb"
  clear henv hB
  refine ifT C F (PT.cmp (by walk_at "pe") (by walk_at "pe") (by rfl) (by with_unfolding_all rfl)) (fun hb _ _ _ _ => ?_) (fun _ s2 T2 h2 C2 => ?_)
  · have := eq_of_beq hb; omega
  refine ifT C2 F (PT.cmp (by walk_at "pe") (by walk_at "pe") (by rfl) (by with_unfolding_all rfl)) (fun hb _ _ _ _ => ?_) (fun _ s3 T3 h3 C3 => ?_)
  · have := of_decide_eq_true hb; omega
  refine ifT C3 F (PT.cmp (by walk_at "pe") (by walk_at "pe") (by rfl) (by with_unfolding_all rfl)) (fun hb' s4 T4 h4 C4 => ?_) (fun hb' s4 T4 h4 C4 => ?_)
  · have hn : x < 0 := of_decide_eq_true hb'
    obtain ⟨e1, e2⟩ := neg_dm (x := x) (b := b) (by omega)
    refine as2 hR'.hh F x3 x4 (by rfl) (by rfl) (callP (pvs := [.int (-x - 1), .int b]) C4 F pl_63 (fun W q => nm_int_divmod W hE g1 q) (PEs.cons (PE.inv (by walk_at "pe")) (by walk_at "pes") (by rfl)) fun s5 τ C5 => cal fun R5 hR5 => rec hn (Cx.tabs (N := []) C5 hS.tm) (W.keeps (Cx.hidM (N := []) C5)) (B.keeps (Cx.hidM (N := []) C5)) (hR'.mono (hk2.2 hn)) fun s6 p u1 u2 M1 T6 f6 g6 => hR5 _ _
      ⟨p, _, _, _, _, rfl, .n (.head _), Cx.callR (N := []) C5 T6 f6 g6 (by nofun), Nat.le_of_ble_eq_true rfl, Nat.le_of_ble_eq_true rfl, fun s7 C7 => ?_⟩)
    replace C7 := C7.drop
    dsimp only [List.set, List.nil_append] at C7
    refine retT (pvs := [.int (x / b), .int (x % b)]) C7 F (PEs.cons (.castI e1.symm (PE.inv (by walk_at "pe"))) (PEs.cons (.castI e2.symm (PE.add (by walk_at "pe") (PE.inv (by walk_at "pe")))) .nil (by rfl)) (by rfl)) (fun _ => Nat.le_of_ble_eq_true rfl) fun s8 p τ C8 => h4.ot (.ret _) _ (by simp) (h3.ot (.ret _) _ (by simp) (h2.ot (.ret _) _ (by simp) ?_))
    have gr := Gr.step C5 (.refl _ _) T6.gr
    exact hQ (.ref p) _ (h _ p _ _ M1 (Cx.tc (N := [_]) C8 T6.ts.tm gr) (Cx.fresh (N := [_]) (p := (p, _)) C8 (.head _) gr) (C8.get (.head _)))
  · have hn : ¬ x < 0 := of_decide_eq_false hb'
    refine wpAny_execs_cons (wpAny_Return_some (callP (pvs := [.int x, .int b]) C4 F pl_56 (fun W q => nm_divmod_pos W hE g2 q) (by walk_at "pes") fun s5 τ C5 => cal fun R5 hR5 => dp_call (Cx.tabs (N := []) C5 hS.tm) (W.keeps (Cx.hidM (N := []) C5)) (B.keeps (Cx.hidM (N := []) C5)) (hR'.mono hk2.1) (by omega) hx hb hb2 fun s6 p u1 u2 M1 T6 f6 g6 => hR5 _ _
      (h4.ot (.ret _) _ (by simp) (h3.ot (.ret _) _ (by simp) (h2.ot (.ret _) _ (by simp) ?_)))))
    have gr := Gr.step C5 (.refl _ _) T6.gr
    have C6 := Cx.callR (N := []) C5 T6 f6 g6 (by nofun)
    exact hQ (.ref p) _ (h _ p _ _ M1 (Cx.tc (N := [_]) C6 T6.ts.tm gr) (Cx.fresh (N := [_]) (p := (p, _)) C6 (.head _) gr) g6)
theorem im_call {w : World} {mg mb : Str → Option Value} {prog : Program} {A : Around} {sA : Shared} {R : Result → Shared → Prop} {x b : Int} {t1 t2 : Tok} {M : List (Addr × Obj)}
    (hS : TS sA M) (W : Wd w mg mb (hideAll sA.heap (M.map (·.1)))) (B : Tb mg (hideAll sA.heap (M.map (·.1)))) (hR : Rm A 23) (hx0 : -(2 ^ 14) < x) (hx : x < 2 ^ 14) (hb : 2 ≤ b) (hb2 : b ≤ 7)
    (h : ∀ s' p t1 t2 M', TC sA s' M M' → sA.heap.get? p = none → s'.heap.get? p = some (tupOf #[.int (x / b) t1, .int (x % b) t2]) → R (.ok (.ret (.ref p))) s') :
    codeAny (model prog w) A (.call (.ref 63) ⟨[.int x t1, .int b t2], []⟩) R sA :=
  im_step hS W B (hR.mono (by decide)) hx hb hb2 (fun q A' s R t1 t2 hS' W' B' hR' h' => im_step hS' W' B' hR' (by omega) hb hb2 (fun q2 => absurd q2 (by omega)) (fun q2 => absurd q2 (by omega)) h') (fun _ => hR) h
/-! ## Fcalls -/
def sumV (ms : List (Int × Int)) : Int := ms.foldl (fun a p => a + p.2) 0
theorem valE {w : World} {mg mb : Str → Option Value} {prog : Program} {A : Around} {E : Value → Shared → Prop} {g : Heap} {s0 s : Shared} {L : Addr} {ns : List Str} {vs : List (Option Value)} {N : List (Addr × Obj)} {env : Env} {kd : Obj} {kvs : List (Int × Value)} {d : Addr} {o : Expr} {apos pos : Pos} {Q : Value → Shared → Prop}
    (C : Cx g s0 L ns vs N s) (F : Fm w mg mb g env L) (ho : PE (FN env g ns vs N) (Kn g N) o (.ref d)) (hd : Kn g N d kd) (hD : kd.IsDictOf (intKind prog w) kvs) (hds : (d == sysModules) = false)
    (hbase : attributeBase o (Str.ofString "values") env (eval o env) = eval o env) (hline : (apos.endLine == pos.line) = true)
    (k : ∀ s' v, Cx g s0 L ns vs ((v, { cls := .type "dict_values", data := .fields #[.ref d] }) :: N) s' → Q (.ref v) s') : wpAny (model prog w) A (eval (.Call (.Attribute o (Str.ofString "values") apos) [] [] pos) env) Q E s := by
  refine wpAny_Call_method (T := "dict") (id := "dict.values") hbase rfl hline PySem.F.plainAttrs_dict PySem.F.slot_dict_values PySem.F.type_dict_values (evR C F ho fun s1 C1 => ?_)
  have hm := dictOf hD (hd.get C1)
  refine ⟨hm.typeIs, hm.mapOf.noDict, ?_⟩
  show wpAny _ _ (callWith pos (.builtin "dict.values") [.ref d] [] []) Q E s1
  exact method_meetsIn PySem.F.slot_dict_values PySem.F.entry_dict_values rfl (PySem.evalArgs_none ⟨rfl, hm.typeIs, PySem.F.args_dict_values_1 _, _, meets_dict_values (intKind prog w) d hds, ⟨kvs, hm⟩, k _ _ (C1.push _ rfl)⟩)
theorem cc_call {w : World} {mg mb : Str → Option Value} {prog : Program} {A : Around} {sA : Shared} {R : Result → Shared → Prop} {d : Addr} {kd : Obj} {kvs : List (Int × Value)} {ms : List (Int × Int)}
    (W : Wd w mg mb sA.heap) (hR : Rm A 1) (hd : sA.heap.get? d = some kd) (hD : kd.IsDictOf (intKind prog w) kvs) (hV : IV kvs ms) (hds : (d == sysModules) = false)
    (h : ∀ s' t, Up sA s' → R (.ok (.ret (.int (sumV ms) t))) s') :
    codeAny (model prog w) A (.call (.ref 112) ⟨[.ref d], []⟩) R sA := by
  refine enter (rest := [Str.ofString "nc", Str.ofString "calls"]) W hR (by rfl) (by kernel_rfl) (by rfl) (by decide +kernel) (by decide +kernel) (by rfl) ?_ (by rfl) (by rfl) (by rfl) (by decide +kernel)
  intro env L A' E Q s1 henv hB hE hR' hQ C
  dsimp only [List.map, List.replicate, List.length, List.append, List.cons_append, List.nil_append] at C
  replace hQ := fun t s' u => hQ (.int (sumV ms) t) s' (h s' t u)
  clear h
  have F : Fm w mg mb sA.heap env L := ⟨W, hE⟩
  have x1 : IsLoc env [Str.ofString "callers", Str.ofString "nc", Str.ofString "calls"] (Str.ofString "callers") 0 := by walk_at "loc"
  have x2 : IsLoc env [Str.ofString "callers", Str.ofString "nc", Str.ofString "calls"] (Str.ofString "nc") 1 := by walk_at "loc"
  have x3 : IsLoc env [Str.ofString "callers", Str.ofString "nc", Str.ofString "calls"] (Str.ofString "calls") 2 := by walk_at "loc"
  clear henv hB
  obtain ⟨ep, hep⟩ := dictAt hD
  refine asI C F x2 (by walk_at "pe") (Nat.le_of_ble_eq_true rfl) (fun s2 t2 C2 => ?_) (by rfl)
  dsimp only [List.set] at C2
  refine forS (fun T F' hT => valE C2 F (by walk_at "pe") (.g hd) hD hds (by rfl) (by rfl) fun s3 v C3 => wpAny_pyIter_values (knd := intKind prog w) ⟨_, C3.get (.head _), rfl, rfl⟩ (hep _ _ (C3.fr.keep _ _ hd)) ?_) (by intro _; rfl)
  have C4 := (C3.push { cls := .type "dict_valueiterator", data := .fields #[.ref d, .int 0 0, .int kvs.length 0, .int ep 0] } rfl).swap.drop
  have hfr : d ≠ s3.heap.objs.size := Nat.ne_of_lt (Heap.lt_size (C3.fr.keep _ _ hd))
  obtain ⟨J, hJ⟩ : ∃ J : Nat → List (Option Value) → List (Addr × Obj) → Prop, ∀ i vs N, J i vs N ↔ ∃ t x, vs = [some (.ref d), some (.int (sumV (ms.take i)) t), x] ∧ N = [] := ⟨_, fun _ _ _ => Iff.rfl⟩
  refine for_core (Walks.dictValues (knd := intKind prog w) hR'.hh s3.heap.objs.size d hfr kvs ep) (fun i h st => ⟨_, st.1.choose_spec.1⟩) J (fun b hb => ?_) C4 hE x3 ⟨⟨_, C4.get (.head _), rfl, rfl⟩, hep _ _ (C4.fr.keep _ _ hd)⟩ ((hJ _ _ _).mpr ⟨t2, none, rfl, rfl⟩) ?_ ?_ ?_
  · rcases List.mem_cons.mp hb with rfl | hb
    · exact .inl rfl
    · rw [List.mem_singleton.mp hb]; exact .inr (.inl ⟨_, hd⟩)
  · intro i vs N q; obtain ⟨_, _, rfl, rfl⟩ := (hJ _ _ _).mp q; exact Nat.le_of_ble_eq_true rfl
  · clear hQ C2 C4 hT
    intro i v vs N s o E' T' hi hP q C hT
    obtain ⟨t, x, rfl, rfl⟩ := (hJ _ _ _).mp q
    obtain ⟨k, hk⟩ := hP
    obtain ⟨y, ty, e1, e2⟩ := hV.at hk
    cases e1
    have e3 : sumV (ms.take (i + 1)) = sumV (ms.take i) + y := by rw [List.take_add_one, e2]; simp [sumV]
    refine wpAny_execs_cons (wpAny_AugAssign_Name (ldL C hE x2 (by rfl) (evI C F (by walk_at "pe") fun s4 t4 C4 => PyProof.Rows.iadd_int (stL (C4.toks _) hE x2 (Nat.le_of_ble_eq_true rfl) fun s5 C5 => ?_))))
    dsimp only [List.set] at C5
    rw [← e3] at C5
    exact nextP (hT.nx _ _ _ ((hJ _ _ _).mpr ⟨_, _, rfl, rfl⟩) C5)
  · intro vs N s q C
    obtain ⟨t, x, rfl, rfl⟩ := (hJ _ _ _).mp q
    rw [hV.length, List.take_length] at C
    exact hT.nx _ (retP (pv := .int _) C F (by walk_at "pe") fun s5 t5 C5 => hQ _ _ ⟨C5.same, C5.fr.keep⟩)

def stF (l : List (Int × Int)) : List (Int × Int) := l.foldl (fun d p => stI d p.1 p.2) []
def addI (ms : List (Int × Int)) (k v : Int) : List (Int × Int) := stI ms k ((getI ms k).getD 0 + v)
def addF (ms l : List (Int × Int)) : List (Int × Int) := l.foldl (fun d p => addI d p.1 p.2) ms
theorem stI_new {ms : List (Int × Int)} {k v : Int} (h : k ∉ ms.map (·.1)) : stI ms k v = ms ++ [(k, v)] := by
  unfold stI
  rw [if_neg]
  intro q
  obtain ⟨p, hp, e⟩ := List.any_eq_true.mp q
  exact h (List.mem_map.mpr ⟨p, hp, by simpa using e⟩)
theorem stF_nodup {l : List (Int × Int)} : ∀ acc : List (Int × Int), ((acc ++ l).map (·.1)).Nodup → l.foldl (fun d p => stI d p.1 p.2) acc = acc ++ l := by
  induction l with
  | nil => intro acc _; simp
  | cons p l ih =>
    intro acc h
    have h1 : p.1 ∉ acc.map (·.1) := by
      rw [List.map_append, List.nodup_append] at h
      exact fun q => h.2.2 _ q _ (.head _) rfl
    rw [List.foldl_cons, stI_new h1, ih _ (by rwa [List.append_assoc]), List.append_assoc]; rfl
theorem stI_len (ms : List (Int × Int)) (k v : Int) : (stI ms k v).length ≤ ms.length + 1 := by
  unfold stI; split <;> simp

section
variable {w : World} {mg mb : Str → Option Value} {prog : Program} {A : Around} {E : Value → Shared → Prop} {g : Heap} {s0 s s' : Shared} {L : Addr} {ns : List Str} {vs : List (Option Value)} {N : List (Addr × Obj)} {env : Env} {kd : Obj} {kvs : List (Int × Value)} {d : Addr}
theorem emptyD (prog : Program) (w : World) : ({ cls := .type "dict", dict := none, data := .dict #[] } : Obj).IsDictOf (intKind prog w) [] := by
  obtain ⟨o, ho, hd⟩ := Heap.dictOf_iff.mp (Heap.DictOf.new (knd := intKind prog w) (default : Heap))
  rw [Heap.get?_push_size _ rfl] at ho
  cases ho; exact hd
theorem newD {Q : Value → Shared → Prop} (C : Cx g s0 L ns vs N s) (F : Fm w mg mb g env L) (h : ∀ s' d kd, (d == sysModules) = false → kd.IsDictOf (intKind prog w) [] → Cx g s0 L ns vs ((d, kd) :: N) s' → Q (.ref d) s') : wpAny (model prog w) A newDict Q E s := by
  refine wpAny_newObj_type (h _ _ _ ?_ (emptyD prog w) (C.push _ rfl))
  have hsz : 197 < s.heap.objs.size := Heap.lt_size ((C.wd F.W).K 197 _ (by rfl))
  exact beq_eq_false_iff_ne.mpr (fun q => by rw [q] at hsz; exact absurd hsz (by decide))
theorem dictE {pos : Pos} {Q : Value → Shared → Prop} (h : wpAny (model prog w) A newDict Q E s) : wpAny (model prog w) A (eval (.Dict [] [] pos) env) Q E s := by
  rw [eval_Dict_empty]; exact wpAny_bind (wpAny_standAt h)
theorem setD {j : Nat} {k : Int} {t : Tok} {v : Value} {Q : Unit → Shared → Prop} (C : Cx g s0 L ns vs N s) (hj : N[j]? = some (d, kd)) (hD : kd.IsDictOf (intKind prog w) kvs) (hz : kvs.length ≤ sizeLine)
    (h : ∀ s' kd', kd'.IsDictOf (intKind prog w) (stored kvs k v) → Cx g s0 L ns vs (N.set j (d, kd')) s' → Q () s') : wpAny (model prog w) A (setItem (.ref d) (.int k t) v) Q E s := by
  refine wpAny_setItem_pairs (intKind_is prog w k t) (dictOf hD (C.get (List.mem_of_getElem? hj))) (fun h' hp hs => ?_) hz
  obtain ⟨kd', hk, hd'⟩ := Heap.dictOf_iff.mp hp
  exact h _ kd' hd' (C.chg hj hs hk)
end
theorem ac_call {w : World} {mg mb : Str → Option Value} {prog : Program} {A : Around} {sA : Shared} {R : Result → Shared → Prop} {d1 d2 : Addr} {kd1 kd2 : Obj} {kvs1 kvs2 : List (Int × Value)} {ms1 ms2 : List (Int × Int)}
    (W : Wd w mg mb sA.heap) (hR : Rm A 1) (hd1 : sA.heap.get? d1 = some kd1) (hD1 : kd1.IsDictOf (intKind prog w) kvs1) (hV1 : IV kvs1 ms1) (hs1 : (d1 == sysModules) = false) (hd2 : sA.heap.get? d2 = some kd2) (hD2 : kd2.IsDictOf (intKind prog w) kvs2) (hV2 : IV kvs2 ms2) (hs2 : (d2 == sysModules) = false)
    (hl : ms1.length + ms2.length ≤ 1000)
    (h : ∀ s' d kd kvs, Up sA s' → sA.heap.get? d = none → (d == sysModules) = false → s'.heap.get? d = some kd → kd.IsDictOf (intKind prog w) kvs → IV kvs (addF ms1 ms2) → R (.ok (.ret (.ref d))) s') :
    codeAny (model prog w) A (.call (.ref 105) ⟨[.ref d1, .ref d2], []⟩) R sA := by
  refine enter (rest := [Str.ofString "new_callers", Str.ofString "func", Str.ofString "caller"]) W hR (by rfl) (by kernel_rfl) (by rfl) (by decide +kernel) (by decide +kernel) (by rfl) ?_ (by rfl) (by rfl) (by rfl) (by decide +kernel)
  intro env L A' E Q s1 henv hB hE hR' hQ C
  dsimp only [List.map, List.replicate, List.length, List.append, List.cons_append, List.nil_append] at C
  replace hQ := fun d s' kd kvs a b c e f g => hQ (.ref d) s' (h s' d kd kvs a b c e f g)
  clear h
  have F : Fm w mg mb sA.heap env L := ⟨W, hE⟩
  have x1 : IsLoc env [Str.ofString "target", Str.ofString "source", Str.ofString "new_callers", Str.ofString "func", Str.ofString "caller"] (Str.ofString "target") 0 := by walk_at "loc"
  have x2 : IsLoc env [Str.ofString "target", Str.ofString "source", Str.ofString "new_callers", Str.ofString "func", Str.ofString "caller"] (Str.ofString "source") 1 := by walk_at "loc"
  have x3 : IsLoc env [Str.ofString "target", Str.ofString "source", Str.ofString "new_callers", Str.ofString "func", Str.ofString "caller"] (Str.ofString "new_callers") 2 := by walk_at "loc"
  have x4 : IsLoc env [Str.ofString "target", Str.ofString "source", Str.ofString "new_callers", Str.ofString "func", Str.ofString "caller"] (Str.ofString "func") 3 := by walk_at "loc"
  have x5 : IsLoc env [Str.ofString "target", Str.ofString "source", Str.ofString "new_callers", Str.ofString "func", Str.ofString "caller"] (Str.ofString "caller") 4 := by walk_at "loc"
  have g1 : IsGlb env (Str.ofString "isinstance") := by walk_at "glb"
  have g2 : IsGlb env (Str.ofString "tuple") := by walk_at "glb"
  clear henv hB
  obtain ⟨ep1, hep1⟩ := dictAt hD1
  obtain ⟨ep2, hep2⟩ := dictAt hD2
  have nd1 : (ms1.map (·.1)).Nodup := by rw [← hV1.keys]; obtain ⟨_, _, _, _, _, _, q⟩ := hD1; exact q
  refine asE C F x3 (dictE (newD C F fun s2 d kd hds hk C2 => ⟨_, _, C2, Nat.le_of_ble_eq_true rfl, fun s3 C3 => ?_⟩)) (by rfl)
  dsimp only [List.set] at C3
  clear C
  obtain ⟨J, hJ⟩ : ∃ J : (Nat → List (Int × Int)) → Nat → List (Option Value) → List (Addr × Obj) → Prop, ∀ M i vs N, J M i vs N ↔ ∃ f c kd kvs, IV kvs (M i) ∧ kd.IsDictOf (intKind prog w) kvs ∧ vs = [some (.ref d1), some (.ref d2), some (.ref d), f, c] ∧ N = [(d, kd)] := ⟨_, fun _ _ _ _ => Iff.rfl⟩
  have lenF : ∀ l : List (Int × Int), ∀ acc : List (Int × Int), (l.foldl (fun d p => stI d p.1 p.2) acc).length ≤ acc.length + l.length := by
    intro l
    induction l with
    | nil => intro acc; simp
    | cons p l ih => intro acc; rw [List.foldl_cons]; have := ih (stI acc p.1 p.2); have := stI_len acc p.1 p.2; rw [List.length_cons]; omega
  have lenA : ∀ l : List (Int × Int), ∀ acc : List (Int × Int), (addF acc l).length ≤ acc.length + l.length := by
    intro l
    induction l with
    | nil => intro acc; simp [addF]
    | cons p l ih => intro acc; rw [addF, List.foldl_cons, ← addF]; have := ih (addI acc p.1 p.2); have := stI_len acc p.1 ((getI acc p.1).getD 0 + p.2); rw [List.length_cons]; unfold addI at *; omega
  refine forS (fun T F' hT => itemsE C3 F (fun q => nmL C3 hE x1 (by rfl) q) (C3.fr.keep _ _ hd1) hD1 hs1 (by rfl) (by rfl) fun s4 v C4 => itemsI C4 (.g hd1) hep1 fun s5 I C5 => ?_) (by intro _; rfl)
  refine for_items hR'.hh hE x4 x5 C5 hep1 (J fun i => stF (ms1.take i)) (fun i vs N q => ?_) ((hJ _ _ _ _).mpr ⟨none, none, _, _, .nil, hk, rfl, rfl⟩) ?_ ?_
  · obtain ⟨_, _, _, _, _, _, rfl, rfl⟩ := (hJ _ _ _ _).mp q; exact ⟨.g hd1, Nat.le_of_ble_eq_true rfl, Nat.le_of_ble_eq_true rfl⟩
  · clear hT C5 hQ C3
    intro i k v t vs N s o E' T' hi q C hT
    obtain ⟨f, c, kd, kvs, hV, hK, rfl, rfl⟩ := (hJ _ _ _ _).mp q
    obtain ⟨y, ty, e1, e2⟩ := hV1.at hi
    cases e1
    dsimp only [List.set] at C
    have hlen := lenF (ms1.take i) []
    rw [List.length_take] at hlen
    refine wpAny_execs_cons (wpAny_Assign_Subscript (evI C F (by walk_at "pe") fun s6 t6 C6 => evR C6 F (by walk_at "pe") fun s7 C7 => evI C7 F (by walk_at "pe") fun s8 t8 C8 => setD (j := 1) C8 rfl hK (by rw [hV.length]; simp only [sizeLine, stF] at *; simp at hlen; omega) fun s9 kd' hk' C9 => nextP (hT.nx _ _ _ ((hJ _ _ _ _).mpr ⟨_, _, kd', _, ?_, hk', rfl, rfl⟩) C9)) (by rfl))
    rw [show stF (ms1.take (i + 1)) = stI (stF (ms1.take i)) k y from by rw [List.take_add_one, e2]; simp [stF]]
    exact hV.st k y t6
  · intro vs N s q C
    obtain ⟨f, c, kd, kvs, hV, hK, rfl, rfl⟩ := (hJ _ _ _ _).mp q
    rw [hV1.length, List.take_length, stF, stF_nodup [] nd1, List.nil_append] at hV
    refine hT.nx _ ?_
    clear hT C5 C3
    refine forS (fun T F' hT => itemsE C F (fun q => nmL C hE x2 (by rfl) q) (C.fr.keep _ _ hd2) hD2 hs2 (by rfl) (by rfl) fun s4 v C4 => itemsI C4 (.g hd2) hep2 fun s5 I C5 => ?_) (by intro _; rfl)
    refine for_items hR'.hh hE x4 x5 C5 hep2 (J fun i => addF ms1 (ms2.take i)) (fun i vs N q => ?_) ((hJ _ _ _ _).mpr ⟨_, _, _, _, hV, hK, rfl, rfl⟩) ?_ ?_
    · obtain ⟨_, _, _, _, _, _, rfl, rfl⟩ := (hJ _ _ _ _).mp q; exact ⟨.g hd2, Nat.le_of_ble_eq_true rfl, Nat.le_of_ble_eq_true rfl⟩
    · clear hT C5 hQ C hV hK
      intro i k v t vs N s o E' T' hi q C hT
      obtain ⟨f, c, kd, kvs, hV, hK, rfl, rfl⟩ := (hJ _ _ _ _).mp q
      obtain ⟨y, ty, e1, e2⟩ := hV2.at hi
      cases e1
      dsimp only [List.set] at C
      have hlen := lenA (ms2.take i) ms1
      rw [List.length_take] at hlen
      have hz : kvs.length ≤ sizeLine := by rw [hV.length]; simp only [sizeLine]; omega
      have eA : addF ms1 (ms2.take (i + 1)) = addI (addF ms1 (ms2.take i)) k y := by rw [List.take_add_one, e2]; simp [addF]
      refine execsT fun T1 h1 => wpAny_If (wpAny_isTrue_Compare1 (evI C F (by walk_at "pe") fun s6 t6 C6 => evR C6 F (by walk_at "pe") fun s7 C7 => wpAny_in_of (intKind_is prog w k t6) hds (dictOf hK (C7.get (.tail _ (.head _)))).mapOf (wpAny_truthy_bool ?_)) (by with_unfolding_all rfl))
      have C8 := C7.toks (s7.toks + 1)
      rcases hV.val k with ⟨v1, v2⟩ | ⟨x, tx, v1, v2⟩
      · rw [v1]
        refine wpAny_execs_cons (wpAny_Assign_Subscript (evI C8 F (by walk_at "pe") fun s6 t6 C6 => evR C6 F (by walk_at "pe") fun s7 C7 => evI C7 F (by walk_at "pe") fun s8 t8 C8 => setD (j := 1) C8 rfl hK hz fun s9 kd' hk' C9 => nextP (h1.nx _ (nextP (hT.nx _ _ _ ((hJ _ _ _ _).mpr ⟨_, _, kd', _, ?_, hk', rfl, rfl⟩) C9)))) (by rfl))
        rw [eA, addI, v2, Option.getD_none, Int.zero_add]
        exact hV.st k y t6
      · rw [v1]
        refine execsT fun T2 h2 => wpAny_If (PyProof.Rows.isTrue_plain (callE (nm_isinstance (C8.wd W) hE g1 (callW W (.b _) (by rfl) (by rfl) (splC (evI C8 F (by walk_at "pe") fun s9 t9 C9 => splC (nm_tuple (C9.wd W) hE g2 (spl0 ⟨⟨_, _, _, _, _, C9⟩, PySem.IsiPair.int_tuple (wpAny_truthy_bool ?_)⟩)) (by rfl)) (by rfl))))) (by rfl))
        have C10 := C9.toks (s9.toks + 1)
        refine wpAny_execs_cons (wpAny_AugAssign_Subscript (evR C10 F (by walk_at "pe") fun s11 C11 => evI C11 F (by walk_at "pe") fun s12 t12 C12 => wpAny_getItem_of (intKind_is prog w k t12) (dictOf hK (C12.get (.tail _ (.head _)))).mapOf v1 (evI (C12.toks _) F (by walk_at "pe") fun s13 t13 C13 => PyProof.Rows.iadd_int
          (setD (j := 1) (C13.toks _) rfl hK hz fun s14 kd' hk' C14 => nextP (h2.nx _ (nextP (h1.nx _ (nextP (hT.nx _ _ _ ((hJ _ _ _ _).mpr ⟨_, _, kd', _, ?_, hk', rfl, rfl⟩) C14)))))))))
        rw [eA, addI, v2, Option.getD_some]
        exact hV.st k (x + y) _
    · intro vs N s q C
      obtain ⟨f, c, kd, kvs, hV, hK, rfl, rfl⟩ := (hJ _ _ _ _).mp q
      rw [hV2.length, List.take_length] at hV
      refine hT.nx _ (retR C F (by walk_at "pe") fun s6 C6 => hQ d s6 kd kvs ⟨C6.same, C6.fr.keep⟩ (C6.nw _ (.head _)).2.2 hds (C6.get (.head _)) hK hV)

theorem afs_call {w : World} {mg mb : Str → Option Value} {prog : Program} {A : Around} {sA : Shared} {R : Result → Shared → Prop} {p1 p2 d1 d2 : Addr} {kd1 kd2 : Obj} {kvs1 kvs2 : List (Int × Value)} {ms1 ms2 : List (Int × Int)} {a1 a2 a3 a4 b1 b2 b3 b4 : Int} {t1 t2 t3 t4 u1 u2 u3 u4 : Tok}
    (W : Wd w mg mb sA.heap) (hR : Rm A 2) (hp1 : sA.heap.get? p1 = some (tupOf #[.int a1 t1, .int a2 t2, .int a3 t3, .int a4 t4, .ref d1])) (hp2 : sA.heap.get? p2 = some (tupOf #[.int b1 u1, .int b2 u2, .int b3 u3, .int b4 u4, .ref d2]))
    (hd1 : sA.heap.get? d1 = some kd1) (hD1 : kd1.IsDictOf (intKind prog w) kvs1) (hV1 : IV kvs1 ms1) (hs1 : (d1 == sysModules) = false) (hd2 : sA.heap.get? d2 = some kd2) (hD2 : kd2.IsDictOf (intKind prog w) kvs2) (hV2 : IV kvs2 ms2) (hs2 : (d2 == sysModules) = false)
    (hl : ms1.length + ms2.length ≤ 1000)
    (h : ∀ s' p d kd kvs t1 t2 t3 t4, Up sA s' → sA.heap.get? p = none → sA.heap.get? d = none → p ≠ d → (d == sysModules) = false → s'.heap.get? p = some (tupOf #[.int (b1 + a1) t1, .int (b2 + a2) t2, .int (b3 + a3) t3, .int (b4 + a4) t4, .ref d]) → s'.heap.get? d = some kd → kd.IsDictOf (intKind prog w) kvs → IV kvs (addF ms1 ms2) → R (.ok (.ret (.ref p))) s') :
    codeAny (model prog w) A (.call (.ref 98) ⟨[.ref p1, .ref p2], []⟩) R sA := by
  refine enter (rest := [Str.ofString "cc", Str.ofString "nc", Str.ofString "tt", Str.ofString "ct", Str.ofString "callers", Str.ofString "t_cc", Str.ofString "t_nc", Str.ofString "t_tt", Str.ofString "t_ct", Str.ofString "t_callers"]) W hR (by rfl) (by kernel_rfl) (by rfl) (by decide +kernel) (by decide +kernel) (by rfl) ?_ (by rfl) (by rfl) (by rfl) (by decide +kernel)
  intro env L A' E Q s1 henv hB hE hR' hQ C
  dsimp only [List.map, List.replicate, List.length, List.append, List.cons_append, List.nil_append] at C
  have F : Fm w mg mb sA.heap env L := ⟨W, hE⟩
  have x1 : IsLoc env [Str.ofString "target", Str.ofString "source", Str.ofString "cc", Str.ofString "nc", Str.ofString "tt", Str.ofString "ct", Str.ofString "callers", Str.ofString "t_cc", Str.ofString "t_nc", Str.ofString "t_tt", Str.ofString "t_ct", Str.ofString "t_callers"] (Str.ofString "target") 0 := by walk_at "loc"
  have x2 : IsLoc env [Str.ofString "target", Str.ofString "source", Str.ofString "cc", Str.ofString "nc", Str.ofString "tt", Str.ofString "ct", Str.ofString "callers", Str.ofString "t_cc", Str.ofString "t_nc", Str.ofString "t_tt", Str.ofString "t_ct", Str.ofString "t_callers"] (Str.ofString "source") 1 := by walk_at "loc"
  have y1 : IsLoc env [Str.ofString "target", Str.ofString "source", Str.ofString "cc", Str.ofString "nc", Str.ofString "tt", Str.ofString "ct", Str.ofString "callers", Str.ofString "t_cc", Str.ofString "t_nc", Str.ofString "t_tt", Str.ofString "t_ct", Str.ofString "t_callers"] (Str.ofString "cc") 2 := by walk_at "loc"
  have y2 : IsLoc env [Str.ofString "target", Str.ofString "source", Str.ofString "cc", Str.ofString "nc", Str.ofString "tt", Str.ofString "ct", Str.ofString "callers", Str.ofString "t_cc", Str.ofString "t_nc", Str.ofString "t_tt", Str.ofString "t_ct", Str.ofString "t_callers"] (Str.ofString "nc") 3 := by walk_at "loc"
  have y3 : IsLoc env [Str.ofString "target", Str.ofString "source", Str.ofString "cc", Str.ofString "nc", Str.ofString "tt", Str.ofString "ct", Str.ofString "callers", Str.ofString "t_cc", Str.ofString "t_nc", Str.ofString "t_tt", Str.ofString "t_ct", Str.ofString "t_callers"] (Str.ofString "tt") 4 := by walk_at "loc"
  have y4 : IsLoc env [Str.ofString "target", Str.ofString "source", Str.ofString "cc", Str.ofString "nc", Str.ofString "tt", Str.ofString "ct", Str.ofString "callers", Str.ofString "t_cc", Str.ofString "t_nc", Str.ofString "t_tt", Str.ofString "t_ct", Str.ofString "t_callers"] (Str.ofString "ct") 5 := by walk_at "loc"
  have y5 : IsLoc env [Str.ofString "target", Str.ofString "source", Str.ofString "cc", Str.ofString "nc", Str.ofString "tt", Str.ofString "ct", Str.ofString "callers", Str.ofString "t_cc", Str.ofString "t_nc", Str.ofString "t_tt", Str.ofString "t_ct", Str.ofString "t_callers"] (Str.ofString "callers") 6 := by walk_at "loc"
  have z1 : IsLoc env [Str.ofString "target", Str.ofString "source", Str.ofString "cc", Str.ofString "nc", Str.ofString "tt", Str.ofString "ct", Str.ofString "callers", Str.ofString "t_cc", Str.ofString "t_nc", Str.ofString "t_tt", Str.ofString "t_ct", Str.ofString "t_callers"] (Str.ofString "t_cc") 7 := by walk_at "loc"
  have z2 : IsLoc env [Str.ofString "target", Str.ofString "source", Str.ofString "cc", Str.ofString "nc", Str.ofString "tt", Str.ofString "ct", Str.ofString "callers", Str.ofString "t_cc", Str.ofString "t_nc", Str.ofString "t_tt", Str.ofString "t_ct", Str.ofString "t_callers"] (Str.ofString "t_nc") 8 := by walk_at "loc"
  have z3 : IsLoc env [Str.ofString "target", Str.ofString "source", Str.ofString "cc", Str.ofString "nc", Str.ofString "tt", Str.ofString "ct", Str.ofString "callers", Str.ofString "t_cc", Str.ofString "t_nc", Str.ofString "t_tt", Str.ofString "t_ct", Str.ofString "t_callers"] (Str.ofString "t_tt") 9 := by walk_at "loc"
  have z4 : IsLoc env [Str.ofString "target", Str.ofString "source", Str.ofString "cc", Str.ofString "nc", Str.ofString "tt", Str.ofString "ct", Str.ofString "callers", Str.ofString "t_cc", Str.ofString "t_nc", Str.ofString "t_tt", Str.ofString "t_ct", Str.ofString "t_callers"] (Str.ofString "t_ct") 10 := by walk_at "loc"
  have z5 : IsLoc env [Str.ofString "target", Str.ofString "source", Str.ofString "cc", Str.ofString "nc", Str.ofString "tt", Str.ofString "ct", Str.ofString "callers", Str.ofString "t_cc", Str.ofString "t_nc", Str.ofString "t_tt", Str.ofString "t_ct", Str.ofString "t_callers"] (Str.ofString "t_callers") 11 := by walk_at "loc"
  have g1 : IsGlb env (Str.ofString "add_callers") := by walk_at "glb"
  clear henv hB
  have lt : ∀ {n m : Nat}, Nat.ble n m = true → n ≤ m := Nat.le_of_ble_eq_true
  refine wpAny_execs_cons (PyProof.Rows.Assign_Tuple (evR C F (by walk_at "pe") fun s2 C2 => asTup hR'.hh C2 (.g hp2) rfl rfl fun s3 C3 => PyProof.Rows.assignInOrder_cons (PyProof.Rows.assign_Name (stL C3 hE y1 (lt rfl) fun s4 C4 => PyProof.Rows.assignInOrder_cons (PyProof.Rows.assign_Name (stL C4 hE y2 (lt rfl) fun s5 C5 =>
    PyProof.Rows.assignInOrder_cons (PyProof.Rows.assign_Name (stL C5 hE y3 (lt rfl) fun s6 C6 => PyProof.Rows.assignInOrder_cons (PyProof.Rows.assign_Name (stL C6 hE y4 (lt rfl) fun s7 C7 => PyProof.Rows.assignInOrder_cons (PyProof.Rows.assign_Name (stL C7 hE y5 (lt rfl) fun s8 C8 => PyProof.Rows.assignInOrder_nil ?_))))))))))) (by rfl) (by rfl))
  dsimp only [List.set] at C8
  clear C C2 C3 C4 C5 C6 C7
  refine wpAny_execs_cons (PyProof.Rows.Assign_Tuple (evR C8 F (by walk_at "pe") fun s2 C2 => asTup hR'.hh C2 (.g hp1) rfl rfl fun s3 C3 => PyProof.Rows.assignInOrder_cons (PyProof.Rows.assign_Name (stL C3 hE z1 (lt rfl) fun s4 C4 => PyProof.Rows.assignInOrder_cons (PyProof.Rows.assign_Name (stL C4 hE z2 (lt rfl) fun s5 C5 =>
    PyProof.Rows.assignInOrder_cons (PyProof.Rows.assign_Name (stL C5 hE z3 (lt rfl) fun s6 C6 => PyProof.Rows.assignInOrder_cons (PyProof.Rows.assign_Name (stL C6 hE z4 (lt rfl) fun s7 C7 => PyProof.Rows.assignInOrder_cons (PyProof.Rows.assign_Name (stL C7 hE z5 (lt rfl) fun s9 C9 => PyProof.Rows.assignInOrder_nil ?_))))))))))) (by rfl) (by rfl))
  dsimp only [List.set] at C9
  clear C8 C2 C3 C4 C5 C6 C7
  refine wpAny_execs_cons (wpAny_Return_some (PyProof.Rows.Tuple_ (splC (evI C9 F (by walk_at "pe") fun s2 v1 C2 => splC (evI C2 F (by walk_at "pe") fun s3 v2 C3 => splC (evI C3 F (by walk_at "pe") fun s4 v3 C4 => splC (evI C4 F (by walk_at "pe") fun s5 v4 C5 =>
    splC (callP (pvs := [.ref d1, .ref d2]) C5 F pl_105 (fun W q => nm_add_callers W hE g1 q) (by walk_at "pes") fun s6 τ C6 => cal fun R6 hR6 => ac_call (C6.wd W) hR' (C6.fr.keep _ _ hd1) hD1 hV1 hs1 (C6.fr.keep _ _ hd2) hD2 hV2 hs2 hl fun s7 d kd kvs u f hsd g7 hK hV => hR6 _ _ (spl0 (newT (C6.add f u g7) (lt rfl) fun s8 p C8 => ?_)))
      (by rfl)) (by rfl)) (by rfl)) (by rfl)) (by rfl))))
  have nd := C8.nd
  simp only [List.map_cons, List.map_nil, List.nodup_cons, List.mem_cons, List.not_mem_nil, or_false] at nd
  exact hQ _ _ (h _ p d kd kvs _ _ _ _ ⟨C8.same, C8.fr.keep⟩ (C8.nw _ (.head _)).2.2 (C8.nw (d, _) (.tail _ (.head _))).2.2 nd.1 hsd (C8.get (.head _)) (C8.get (.tail _ (.head _))) hK hV)
/-! ## Ftc -/
def cmpK : List (Int × Int) → List Int → List Int → Int
  | [], _, _ => 0
  | (k, d) :: r, l, m => if l.getD k.toNat 0 < m.getD k.toNat 0 then -d else if m.getD k.toNat 0 < l.getD k.toNat 0 then d else cmpK r l m
/-- a sequence of pairs of ints -/
theorem tci_call {w : World} {mg mb : Str → Option Value} {prog : Program} {A : Around} {sA : Shared} {R : Result → Shared → Prop} {x dx ta : Addr}
    (W : Wd w mg mb (hideAll sA.heap [dx])) (hR : Rm A 1) (hx : sA.heap.get? x = some (instObj 87 dx)) (hd : sA.heap.get? dx = some (PySem.W.dictOf [] 0)) (hne : x ≠ dx)
    (h : ∀ s' es m, Kp [dx] sA s' → s'.heap.get? dx = some (PySem.W.dictOf es m) → getL (Str.ofString "comp_select_list") es = some (some (.ref ta)) → getL (Str.ofString "compare") es = some none → R (.ok (.ret .none)) s') :
    codeAny (model prog w) A (.call (.ref 77) ⟨[.ref x, .ref ta], []⟩) R sA := by
  refine enterH (rest := []) [(dx, PySem.W.dictOf [] 0)] W (fun b o e => of_hideAll _ e) (Nat.le_of_eq (hideAll_size _ _))
    (fun p hp => by rw [List.mem_singleton.mp hp]; exact ⟨hd, hideAll_none _ (.head _)⟩) (List.pairwise_singleton _ _) hR (by rfl) (by kernel_rfl) (by rfl) (by decide +kernel) (by decide +kernel) (by rfl) ?_ (by rfl) (by rfl) (by rfl) (by decide +kernel)
  intro env L A' E Q s1 henv hB hE hR' _ hQ C
  dsimp only [List.map, List.replicate, List.length, List.append, List.cons_append, List.nil_append] at C
  have F : Fm w mg mb (hideAll sA.heap [dx]) env L := ⟨W, hE⟩
  have x1 : IsLoc env [Str.ofString "self", Str.ofString "comp_select_list"] (Str.ofString "self") 0 := by walk_at "loc"
  have x2 : IsLoc env [Str.ofString "self", Str.ofString "comp_select_list"] (Str.ofString "comp_select_list") 1 := by walk_at "loc"
  have hxg : (hideAll sA.heap [dx]).get? x = some (instObj 87 dx) := hideAll_get _ hx (by simpa using hne)
  clear henv hB
  refine wpAny_execs_cons (plainObj_wpAny_Assign_Attribute (evR C F (by walk_at "pe") fun s2 C2 => atS C2 F (by walk_at "pe") (by walk_at "kn") (j := 0) (by rfl) ⟨by kernel_rfl, by kernel_rfl, by kernel_rfl, by kernel_rfl⟩ (by rfl) (Nat.le_of_ble_eq_true rfl) fun s3 tk3 C3 => ?_) (by rfl))
  exact nextP (hQ _ (h _ _ _ ⟨C3.same, fun b o hb e => C3.fr.keep _ _ (hideAll_get _ e hb)⟩ (C3.get (.head _)) (by rfl) (by rfl)))
theorem tcc_call {w : World} {mg mb : Str → Option Value} {prog : Program} {A : Around} {sA : Shared} {R : Result → Shared → Prop} {x dx ta al ar : Addr} {es : List DictEntry} {m k1 k2 : Nat} {kits lits rits : Array Value} {ks : List (Int × Int)} {ls rs : List Int}
    (W : Wd w mg mb sA.heap) (hR : Rm A 1) (hx : sA.heap.get? x = some (instObj 87 dx)) (hd : sA.heap.get? dx = some (PySem.W.dictOf es m)) (hes : getL (Str.ofString "comp_select_list") es = some (some (.ref ta))) (ht : sA.heap.get? ta = some (tupOf kits)) (hk : PairsAt sA.heap kits ks)
    (hl : sA.heap.get? al = some (listOf lits k1)) (hL : IntsAre lits.toList ls) (hr : sA.heap.get? ar = some (listOf rits k2)) (hRr : IntsAre rits.toList rs) (hb : ∀ p ∈ ks, 0 ≤ p.1 ∧ p.1 < ls.length ∧ p.1 < rs.length) (hz : ls.length ≤ 1000)
    (h : ∀ s' t, Up sA s' → R (.ok (.ret (.int (cmpK ks ls rs) t))) s') :
    codeAny (model prog w) A (.call (.ref 84) ⟨[.ref x, .ref al, .ref ar], []⟩) R sA := by
  refine enter (rest := [Str.ofString "index", Str.ofString "direction", Str.ofString "l", Str.ofString "r"]) W hR (by rfl) (by kernel_rfl) (by rfl) (by decide +kernel) (by decide +kernel) (by rfl) ?_ (by rfl) (by rfl) (by rfl) (by decide +kernel)
  intro env L A' E Q s1 henv hB hE hR' hQ C
  dsimp only [List.map, List.replicate, List.length, List.append, List.cons_append, List.nil_append] at C
  replace hQ := fun s' t u => hQ (.int (cmpK ks ls rs) t) s' (h s' t u)
  clear h
  have F : Fm w mg mb sA.heap env L := ⟨W, hE⟩
  have x1 : IsLoc env [Str.ofString "self", Str.ofString "left", Str.ofString "right", Str.ofString "index", Str.ofString "direction", Str.ofString "l", Str.ofString "r"] (Str.ofString "self") 0 := by walk_at "loc"
  have x2 : IsLoc env [Str.ofString "self", Str.ofString "left", Str.ofString "right", Str.ofString "index", Str.ofString "direction", Str.ofString "l", Str.ofString "r"] (Str.ofString "left") 1 := by walk_at "loc"
  have x3 : IsLoc env [Str.ofString "self", Str.ofString "left", Str.ofString "right", Str.ofString "index", Str.ofString "direction", Str.ofString "l", Str.ofString "r"] (Str.ofString "right") 2 := by walk_at "loc"
  have x4 : IsLoc env [Str.ofString "self", Str.ofString "left", Str.ofString "right", Str.ofString "index", Str.ofString "direction", Str.ofString "l", Str.ofString "r"] (Str.ofString "index") 3 := by walk_at "loc"
  have x5 : IsLoc env [Str.ofString "self", Str.ofString "left", Str.ofString "right", Str.ofString "index", Str.ofString "direction", Str.ofString "l", Str.ofString "r"] (Str.ofString "direction") 4 := by walk_at "loc"
  have x6 : IsLoc env [Str.ofString "self", Str.ofString "left", Str.ofString "right", Str.ofString "index", Str.ofString "direction", Str.ofString "l", Str.ofString "r"] (Str.ofString "l") 5 := by walk_at "loc"
  have x7 : IsLoc env [Str.ofString "self", Str.ofString "left", Str.ofString "right", Str.ofString "index", Str.ofString "direction", Str.ofString "l", Str.ofString "r"] (Str.ofString "r") 6 := by walk_at "loc"
  clear henv hB
  refine forS (fun T F' hT => atE C F (by walk_at "pe") (.g hx) (.g hd) ⟨by kernel_rfl, by kernel_rfl, by kernel_rfl⟩ hes (by rfl) (fun s2 C2 => PySem.wpAny_pyIter_tuple ⟨_, C2.fr.keep _ _ ht, rfl, _, rfl⟩ ?_) (by rfl) (by intro _; rfl)) (by intro _; rfl)
  have C3 := C2.push { cls := .type "tuple_iterator", data := .fields #[.ref ta, .int 0 0] } rfl
  have hne : ta ≠ s2.heap.objs.size := Nat.ne_of_lt (Heap.lt_size (C2.fr.keep _ _ ht))
  obtain ⟨J, hJ⟩ : ∃ J : Nat → List (Option Value) → List (Addr × Obj) → Prop, ∀ i vs N, J i vs N ↔ ∃ a b c d, cmpK (ks.drop i) ls rs = cmpK ks ls rs ∧ vs = [some (.ref x), some (.ref al), some (.ref ar), a, b, c, d] ∧ N = [] := ⟨_, fun _ _ _ => Iff.rfl⟩
  refine for_pairs (Rp := fun i a b => ∃ p ta tb, ks[i]? = some p ∧ a = .int p.1 ta ∧ b = .int p.2 tb) hR'.hh (Walks.tuple (prog := prog) (w := w) hR'.hh s2.heap.objs.size ta hne kits) (fun i h st => ⟨_, st.1.choose_spec.1⟩) (fun st q => go_tupleiter st.1 q) J (fun b hb => ?_) C3 hE x4 x5 ⟨⟨_, C3.get (.head _), rfl, rfl⟩, ⟨_, C3.fr.keep _ _ ht, rfl, _, rfl⟩⟩ ((hJ _ _ _).mpr ⟨none, none, none, none, rfl, rfl, rfl⟩) ?_ ?_ ?_
  · rcases List.mem_cons.mp hb with rfl | hb
    · exact .inl rfl
    · rw [List.mem_singleton.mp hb]; exact .inr (.inl ⟨_, ht⟩)
  · intro i vs N q
    obtain ⟨_, _, _, _, _, rfl, rfl⟩ := (hJ _ _ _).mp q
    refine ⟨Nat.le_of_ble_eq_true rfl, Nat.le_of_ble_eq_true rfl, fun v hi hv => ?_⟩
    rw [hk.1] at hi
    obtain ⟨t, tk, td, e1, e2⟩ := hk.2 i ks[i] (List.getElem?_eq_getElem hi)
    rw [e1] at hv; cases hv
    exact ⟨t, _, _, rfl, .g e2, _, tk, td, List.getElem?_eq_getElem hi, rfl, rfl⟩
  · clear C3 C2 C
    intro i a b vs N s o E' T' hi ⟨p, ta', tb, hp, ea, eb⟩ q C hT'
    subst ea; subst eb
    obtain ⟨_, _, _, _, hc, rfl, rfl⟩ := (hJ _ _ _).mp q
    dsimp only [List.set] at C
    obtain ⟨b1, b2, b3⟩ := hb p (List.mem_of_getElem? hp)
    have hdr : ks.drop i = p :: ks.drop (i + 1) := by
      obtain ⟨hlt, e⟩ := List.getElem?_eq_some_iff.mp hp
      rw [List.drop_eq_getElem_cons hlt, e]
    rw [hdr, show p = (p.1, p.2) from rfl, cmpK] at hc
    refine asI C F x6 (PE.itI (n := p.1) (by walk_at "pe") (.g hl) (by walk_at "pe") b1 (by omega) (ints_at hL (by omega)) (by rfl)) (Nat.le_of_ble_eq_true rfl) (fun s3 t3 C3 => ?_) (by rfl)
    refine asI C3 F x7 (PE.itI (n := p.1) (by walk_at "pe") (.g hr) (by walk_at "pe") b1 (by omega) (ints_at hRr (by omega)) (by rfl)) (Nat.le_of_ble_eq_true rfl) (fun s4 t4 C4 => ?_) (by rfl)
    dsimp only [List.set] at C4
    generalize ls.getD p.1.toNat 0 = u at C4 hc
    generalize rs.getD p.1.toNat 0 = v at C4 hc
    refine ifT C4 F (PT.cmp (by walk_at "pe") (by walk_at "pe") (by rfl) (by with_unfolding_all rfl)) (fun hb s5 T5 h5 C5 => ?_) (fun hb s5 T5 h5 C5 => nextP (h5.nx _ ?_))
    · have := of_decide_eq_true hb
      rw [if_pos this] at hc
      refine retP (pv := .int (-p.2)) C5 F (PE.neg (by walk_at "pe")) fun s6 t6 C6 => h5.ot (.ret _) _ (by simp) (hT'.rt _ _ (hT.ot (.ret _) _ (by simp) ?_))
      rw [hc]; exact hQ _ _ ⟨C6.same, C6.fr.keep⟩
    · have h1 := of_decide_eq_false hb
      rw [if_neg h1] at hc
      refine ifT C5 F (PT.cmp (by walk_at "pe") (by walk_at "pe") (by rfl) (by with_unfolding_all rfl)) (fun hb s6 T6 h6 C6 => ?_) (fun hb s6 T6 h6 C6 => nextP (h6.nx _ (nextP (hT'.nx _ _ _ ((hJ _ _ _).mpr ⟨_, _, _, _, ?_, rfl, rfl⟩) C6))))
      · have := of_decide_eq_true hb
        rw [if_pos this] at hc
        refine retP (pv := .int p.2) C6 F (by walk_at "pe") fun s7 t7 C7 => h6.ot (.ret _) _ (by simp) (hT'.rt _ _ (hT.ot (.ret _) _ (by simp) ?_))
        rw [hc]; exact hQ _ _ ⟨C7.same, C7.fr.keep⟩
      · have h2 := of_decide_eq_false hb
        rw [if_neg h2] at hc; exact hc
  · intro vs N s q C
    obtain ⟨_, _, _, _, hc, rfl, rfl⟩ := (hJ _ _ _).mp q
    rw [hk.1, List.drop_length] at hc
    refine hT.nx _ (retP (pv := .int 0) C F (by walk_at "pe") fun s5 t5 C5 => ?_)
    rw [show (0 : Int) = cmpK ks ls rs from hc]
    exact hQ _ _ ⟨C5.same, C5.fr.keep⟩
/-! ## Flaw0 -/
/-! the frame of law -/
abbrev lawNs : List Str := [Str.ofString "spare", Str.ofString "behind", Str.ofString "end", Str.ofString "ways", Str.ofString "k", Str.ofString "keys", Str.ofString "x", Str.ofString "numbers", Str.ofString "rows", Str.ofString "texts", Str.ofString "entry", Str.ofString "due", Str.ofString "parts", Str.ofString "quotient", Str.ofString "figure", Str.ofString "lead", Str.ofString "ahead", Str.ofString "column", Str.ofString "worth", Str.ofString "comp", Str.ofString "i", Str.ofString "j"]
abbrev lawCs (L : Addr) : List Addr := [L + 9, L + 8, L + 7, L + 6, L + 5, L + 4, L + 3, L + 2, L + 1]
noncomputable abbrev lawB : List Stmt := D202.2.1
/-- the body of a for, a statement of it -/
def forB : Stmt → List Stmt
  | .For _ _ b _ _ => b
  | _ => []
structure LE (env : Env) (L : Addr) : Prop where
  E : EnvL env L
  itr : interactive env = false
  l_spare : IsLoc env lawNs (Str.ofString "spare") 0
  l_behind : IsLoc env lawNs (Str.ofString "behind") 1
  l_end : IsLoc env lawNs (Str.ofString "end") 2
  l_ways : IsLoc env lawNs (Str.ofString "ways") 3
  l_k : IsLoc env lawNs (Str.ofString "k") 4
  l_keys : IsLoc env lawNs (Str.ofString "keys") 5
  l_x : IsLoc env lawNs (Str.ofString "x") 6
  l_numbers : IsLoc env lawNs (Str.ofString "numbers") 7
  l_rows : IsLoc env lawNs (Str.ofString "rows") 8
  l_texts : IsLoc env lawNs (Str.ofString "texts") 9
  l_entry : IsLoc env lawNs (Str.ofString "entry") 10
  l_due : IsLoc env lawNs (Str.ofString "due") 11
  l_parts : IsLoc env lawNs (Str.ofString "parts") 12
  l_quotient : IsLoc env lawNs (Str.ofString "quotient") 13
  l_figure : IsLoc env lawNs (Str.ofString "figure") 14
  l_lead : IsLoc env lawNs (Str.ofString "lead") 15
  l_ahead : IsLoc env lawNs (Str.ofString "ahead") 16
  l_column : IsLoc env lawNs (Str.ofString "column") 17
  l_worth : IsLoc env lawNs (Str.ofString "worth") 18
  l_comp : IsLoc env lawNs (Str.ofString "comp") 19
  l_i : IsLoc env lawNs (Str.ofString "i") 20
  l_j : IsLoc env lawNs (Str.ofString "j") 21
  c_white : LC env (lawCs L) (Str.ofString "white") 0
  c_figures : LC env (lawCs L) (Str.ofString "figures") 1
  c_sums : LC env (lawCs L) (Str.ofString "sums") 2
  c_part : LC env (lawCs L) (Str.ofString "part") 3
  c_came : LC env (lawCs L) (Str.ofString "came") 4
  c_turn : LC env (lawCs L) (Str.ofString "turn") 5
  c_many : LC env (lawCs L) (Str.ofString "many") 6
  c_size : LC env (lawCs L) (Str.ofString "size") 7
  c_script : LC env (lawCs L) (Str.ofString "script") 8
  g_sum : IsGlb env (Str.ofString "sum")
  g_law_ways : IsGlb env (Str.ofString "_law_ways")
  g_range : IsGlb env (Str.ofString "range")
  g_int_divmod : IsGlb env (Str.ofString "int_divmod")
  g_law_lead : IsGlb env (Str.ofString "_law_lead")
  g_law_place : IsGlb env (Str.ofString "_law_place")
  g_Whitespace : IsGlb env (Str.ofString "Whitespace")
  g_add_func_stats : IsGlb env (Str.ofString "add_func_stats")
  g_len : IsGlb env (Str.ofString "len")
  g_list : IsGlb env (Str.ofString "list")
  g_count_calls : IsGlb env (Str.ofString "count_calls")
  g_TupleComp : IsGlb env (Str.ofString "TupleComp")
  g_tuple : IsGlb env (Str.ofString "tuple")
theorem LE.of {env : Env} {L : Addr} {cdv : Value} (hB : Blk D202.2.2 env cdv (cellsFrom (L + 1) D202.2.2.names [])) (hE : EnvL env L) : LE env L where
  E := hE
  itr := hB.itr
  l_spare := hB.loc (by rfl) (by rfl) (by decide)
  l_behind := hB.loc (by rfl) (by rfl) (by decide)
  l_end := hB.loc (by rfl) (by rfl) (by decide)
  l_ways := hB.loc (by rfl) (by rfl) (by decide)
  l_k := hB.loc (by rfl) (by rfl) (by decide)
  l_keys := hB.loc (by rfl) (by rfl) (by decide)
  l_x := hB.loc (by rfl) (by rfl) (by decide)
  l_numbers := hB.loc (by rfl) (by rfl) (by decide)
  l_rows := hB.loc (by rfl) (by rfl) (by decide)
  l_texts := hB.loc (by rfl) (by rfl) (by decide)
  l_entry := hB.loc (by rfl) (by rfl) (by decide)
  l_due := hB.loc (by rfl) (by rfl) (by decide)
  l_parts := hB.loc (by rfl) (by rfl) (by decide)
  l_quotient := hB.loc (by rfl) (by rfl) (by decide)
  l_figure := hB.loc (by rfl) (by rfl) (by decide)
  l_lead := hB.loc (by rfl) (by rfl) (by decide)
  l_ahead := hB.loc (by rfl) (by rfl) (by decide)
  l_column := hB.loc (by rfl) (by rfl) (by decide)
  l_worth := hB.loc (by rfl) (by rfl) (by decide)
  l_comp := hB.loc (by rfl) (by rfl) (by decide)
  l_i := hB.loc (by rfl) (by rfl) (by decide)
  l_j := hB.loc (by rfl) (by rfl) (by decide)
  c_white := ⟨⟨L + 9, by rfl, .inl (hB.kind (by rfl)), by rw [hB.cells]; rfl, by decide, by decide⟩, hB.kind (by rfl)⟩
  c_figures := ⟨⟨L + 8, by rfl, .inl (hB.kind (by rfl)), by rw [hB.cells]; rfl, by decide, by decide⟩, hB.kind (by rfl)⟩
  c_sums := ⟨⟨L + 7, by rfl, .inl (hB.kind (by rfl)), by rw [hB.cells]; rfl, by decide, by decide⟩, hB.kind (by rfl)⟩
  c_part := ⟨⟨L + 6, by rfl, .inl (hB.kind (by rfl)), by rw [hB.cells]; rfl, by decide, by decide⟩, hB.kind (by rfl)⟩
  c_came := ⟨⟨L + 5, by rfl, .inl (hB.kind (by rfl)), by rw [hB.cells]; rfl, by decide, by decide⟩, hB.kind (by rfl)⟩
  c_turn := ⟨⟨L + 4, by rfl, .inl (hB.kind (by rfl)), by rw [hB.cells]; rfl, by decide, by decide⟩, hB.kind (by rfl)⟩
  c_many := ⟨⟨L + 3, by rfl, .inl (hB.kind (by rfl)), by rw [hB.cells]; rfl, by decide, by decide⟩, hB.kind (by rfl)⟩
  c_size := ⟨⟨L + 2, by rfl, .inl (hB.kind (by rfl)), by rw [hB.cells]; rfl, by decide, by decide⟩, hB.kind (by rfl)⟩
  c_script := ⟨⟨L + 1, by rfl, .inl (hB.kind (by rfl)), by rw [hB.cells]; rfl, by decide, by decide⟩, hB.kind (by rfl)⟩
  g_sum := hB.glb (by rfl) (by decide)
  g_law_ways := hB.glb (by rfl) (by decide)
  g_range := hB.glb (by rfl) (by decide)
  g_int_divmod := hB.glb (by rfl) (by decide)
  g_law_lead := hB.glb (by rfl) (by decide)
  g_law_place := hB.glb (by rfl) (by decide)
  g_Whitespace := hB.glb (by rfl) (by decide)
  g_add_func_stats := hB.glb (by rfl) (by decide)
  g_len := hB.glb (by rfl) (by decide)
  g_list := hB.glb (by rfl) (by decide)
  g_count_calls := hB.glb (by rfl) (by decide)
  g_TupleComp := hB.glb (by rfl) (by decide)
  g_tuple := hB.glb (by rfl) (by decide)

theorem Sub.rf {X : List (Addr × Obj)} : Sub X X := ⟨fun _ h => h⟩
theorem Sub.ra {X P R : List (Addr × Obj)} (h : Sub X R) : Sub X (P ++ R) := ⟨fun _ q => List.mem_append_right _ (h.h _ q)⟩
/-- the tables of codes lie within -/
def TR (R : List (Addr × Obj)) : Prop := ∃ M X, R.Perm (M ++ X) ∧ TM M
theorem TR.cons {R : List (Addr × Obj)} {p : Addr × Obj} (h : TR R) : TR (p :: R) := let ⟨M, X, hp, hM⟩ := h; ⟨M, p :: X, (hp.cons p).trans List.perm_middle.symm, hM⟩
theorem TR.app {R T : List (Addr × Obj)} (h : TR R) : TR (T ++ R) := by
  induction T with
  | nil => exact h
  | cons p T ih => exact ih.cons
abbrev vsM (sp bh en : Int) (τ : Nat → Tok) (aw ak an ap : Addr) (k x r t e d q f l a c wo : Option Value) : List (Option Value) :=
  [some (.int sp (τ 0)), some (.int bh (τ 1)), some (.int en (τ 2)), some (.ref aw), k, some (.ref ak), x, some (.ref an), r, t, e, d, some (.ref ap), q, f, l, a, c, wo, none, none, none]
abbrev cvM (tu ma si : Int) (σ : Nat → Tok) (as : Addr) (wh fi su pa ca : Option Value) : List (Option Value) :=
  [wh, fi, su, pa, ca, some (.int tu (σ 0)), some (.int ma (σ 1)), some (.int si (σ 2)), some (.ref as)]
theorem LC.some {env : Env} {cs : List Addr} {x : Str} {i : Nat} (h : LC env cs x i) : (env.cells.lookup x).isSome = true := by
  obtain ⟨c, _, hx⟩ := h.c
  rw [hx.l]; rfl
theorem hclAll {env : Env} {names : List (Str × NameKind)} (ok : List Str) (h1 : names.all (fun p => !(p.2 == .free) || ok.contains p.1) = true) (h2 : ∀ x ∈ ok, (env.cells.lookup x).isSome = true) :
    (names.all fun p => !(p.2 == .free) || (env.cells.lookup p.1).isSome) = true := by
  rw [List.all_eq_true] at h1 ⊢
  intro p hp
  have := h1 p hp
  rw [Bool.or_eq_true] at this ⊢
  exact this.imp id fun q => h2 _ (by simpa using q)
theorem swaps_true {elt : Expr} {gs : List Comprehension} {scope : Scope} {cpos px : Pos} {x : Str} {n : Nat} {env : Env} (hk : env.scope.kind = .function) (h : env.kindOf x = .some .local) (h1 : (px.line == cpos.line) = true) (h2 : (scope.names.any fun y => y.1 == x && (y.2 == .local || y.2 == .cell)) = false) :
    swapsWith (.ListComp elt gs scope cpos) (.some (.Name x px)) n env = pure true := by
  show (pure (env.blockKind == .function && env.kindOf x == .some .local && px.line == cpos.line && !(scope.names.any fun y => y.1 == x && (y.2 == .local || y.2 == .cell))) : Sem Bool) = _
  rw [h, h1, h2]
  have : env.blockKind = .function := by unfold Env.blockKind; rw [hk]; rfl
  rw [this]
  rfl
section
variable {g : Heap} {s0 s : Shared} {L : Addr} {ns : List Str} {vs cv : List (Option Value)} {N CL R T : List (Addr × Obj)} {env cenv : Env} {cs : List Addr}
theorem FN.blk {scope : Scope} {x : Str} {i : Nat} {v : Value} (Bk : Bl scope env cenv) (hf : scope.names.lookup x = Option.some .free) (h : LC env cs x i) (hC : CellsL cs cv CL) (hg : ∀ p ∈ CL, g.get? p.1 = Option.some p.2) (hv : cv[i]? = Option.some (Option.some v)) : FN cenv g ns vs N x v := by
  obtain ⟨c, o, hx, hm, hd⟩ := hC.at_ h hv
  exact .cel (Bk.cel hf hx h.k) (.g (hg _ hm)) hd
theorem Cx.foldM (C : Cx g s0 L ns vs (T ++ (CL ++ R)) s) : Cx g s0 L ns vs (CL ++ (T ++ R)) s := C.perm (List.perm_append_comm_assoc _ _ _)
end
local macro_rules | `(tactic| walk_at "sub") => `(tactic| first | exact Sub.rf | exact Sub.l | (refine Sub.c ?_; walk_at "sub") | (refine Sub.ra ?_; walk_at "sub"))
local macro_rules | `(tactic| walk_at "fn") => `(tactic| first | exact FN.loc (by assumption) (by rfl) | exact FN.cl (by assumption) (by walk_at "sub") (by assumption) (by rfl))
local macro_rules | `(tactic| walk_at "kn") => `(tactic| first | exact Kn.n (by k_mem) | exact Kn.g (by assumption) | (refine Kn.s ?h1 ?h2; (case h2 => assumption); (case h1 => walk_at "sub")))
/-! ## FlawA -/
def sizeF (sp : Int) : Int := 1 + sp.fmod 6
def manyF (sp : Int) : Int := 1 + (sp.fdiv 6).fmod 3
def behF (sp : Int) : Int := (sp.fdiv 18).fmod (sizeF sp)
def turnF (sp : Int) : Int := (sp.fdiv 108).fmod (manyF sp)
def endF (sp : Int) : Int := sizeF sp * manyF sp + behF sp
theorem sizeB (sp : Int) : 1 ≤ sizeF sp ∧ sizeF sp ≤ 6 := by
  have := Int.fmod_nonneg_of_pos sp (b := 6) (by decide)
  have := Int.fmod_lt_of_pos sp (b := 6) (by decide)
  unfold sizeF; omega
theorem manyB (sp : Int) : 1 ≤ manyF sp ∧ manyF sp ≤ 3 := by
  have := Int.fmod_nonneg_of_pos (sp.fdiv 6) (b := 3) (by decide)
  have := Int.fmod_lt_of_pos (sp.fdiv 6) (b := 3) (by decide)
  unfold manyF; omega
theorem behB (sp : Int) : 0 ≤ behF sp ∧ behF sp < sizeF sp := by
  have h := sizeB sp
  exact ⟨Int.fmod_nonneg_of_pos _ (by omega), Int.fmod_lt_of_pos _ (by omega)⟩
theorem turnB (sp : Int) : 0 ≤ turnF sp ∧ turnF sp < manyF sp := by
  have h := manyB sp
  exact ⟨Int.fmod_nonneg_of_pos _ (by omega), Int.fmod_lt_of_pos _ (by omega)⟩
theorem endB (sp : Int) : 0 ≤ endF sp ∧ endF sp ≤ 30 := by
  have h1 := sizeB sp
  have h2 := manyB sp
  have h3 := behB sp
  have h4 : sizeF sp * manyF sp ≤ 6 * 3 := Int.mul_le_mul h1.2 h2.2 (by omega) (by decide)
  have h5 : 0 ≤ sizeF sp * manyF sp := Int.mul_nonneg (by omega) (by omega)
  unfold endF; omega

theorem lawA1 {w : World} {mg mb : Str → Option Value} {prog : Program} {A : Around} {E : Value → Shared → Prop} {g : Heap} {s0 s : Shared} {L : Addr} {env : Env} {Q : Flow → Shared → Prop} {CL R : List (Addr × Obj)} {as : Addr} {items : List Value} {xs : List Int}
    (F : Fm w mg mb g env L) (le : LE env L) (hR : Rm A 2) (hl : g.IsList as items.toArray) (hI : IntsAre items xs) (hC : CellsL (lawCs L) [none, none, none, none, none, none, none, none, some (.ref as)] CL) (C : Cx g s0 L lawNs (List.replicate 22 none) (CL ++ R) s)
    (k : ∀ s' CL' aw its ls (τ σ : Nat → Tok), CellsL (lawCs L) (cvM (turnF (xs.sum + 27)) (manyF (xs.sum + 27)) (sizeF (xs.sum + 27)) σ as none none none none none) CL' → IntsAre its.toList ls → WaysInv (sizeF (xs.sum + 27)) (endF (xs.sum + 27)) ls 0 →
      Cx g s0 L lawNs [some (.int (xs.sum + 27) (τ 0)), some (.int (behF (xs.sum + 27)) (τ 1)), some (.int (endF (xs.sum + 27)) (τ 2)), some (.ref aw), none, none, none, none, none, none, none, none, none, none, none, none, none, none, none, none, none, none] (CL' ++ ((aw, listOf its 0) :: R)) s' →
      wpAny (model prog w) A (execs (lawB.drop 7) env) Q E s') :
    wpAny (model prog w) A (execs lawB env) Q E s := by
  have hh := hR.hh
  have hE := le.E
  have x0 := le.l_spare
  have x1 := le.l_behind
  have x2 := le.l_end
  have x3 := le.l_ways
  have y5 := le.c_turn
  have y6 := le.c_many
  have y7 := le.c_size
  have y8 := le.c_script
  obtain ⟨sp, hsp⟩ : ∃ sp, sp = xs.sum + 27 := ⟨_, rfl⟩
  rw [← hsp] at k
  have b1 := sizeB sp
  have b2 := manyB sp
  have b3 := behB sp
  have b4 := endB sp
  have n1 : sizeF sp ≠ 0 := by omega
  have n2 : manyF sp ≠ 0 := by omega
  have n3 : (manyF sp).natAbs < 2 ^ 63 := by omega
  have n4 : (sizeF sp).natAbs < 2 ^ 63 := by omega
  refine asE C F x0 (wpAny_BinOp (callP (pvs := [.ref as]) C F (.b "sum") (fun W q => nm_sum W hE le.g_sum q) (by walk_at "pes") fun s1 τ1 C1 => sumE hh C1 hl hI fun s2 t2 C2 => cInt C2 fun s3 t3 C3 => oAdd C3 fun s4 t4 C4 => ⟨_, _, C4, Nat.le_of_ble_eq_true rfl, fun s5 C5 => ?_⟩)) (by rfl)
  rw [← hsp] at C5
  clear C
  refine asClP (pv := .int (sizeF sp)) C5 F y7 hC (by walk_at "pe") (fun s6 t6 CL1 hC1 C6 => ?_) (by rfl)
  refine asClP (pv := .int (manyF sp)) C6 F y6 hC1 (by walk_at "pe") (fun s7 t7 CL2 hC2 C7 => ?_) (by rfl)
  clear C5 C6 hC hC1
  refine asP (pv := .int (behF sp)) C7 F x1 (by walk_at "pe") (Nat.le_of_ble_eq_true rfl) (fun s8 t8 C8 => ?_) (by rfl)
  refine asClP (pv := .int (turnF sp)) C8 F y5 hC2 (by walk_at "pe") (fun s9 t9 CL3 hC3 C9 => ?_) (by rfl)
  clear C7 C8 hC2
  refine asP (pv := .int (endF sp)) C9 F x2 (by walk_at "pe") (Nat.le_of_ble_eq_true rfl) (fun s10 t10 C10 => ?_) (by rfl)
  clear C9
  refine asE C10 F x3 (callP (pvs := [.int (sizeF sp), .int (endF sp)]) C10 F pl_190 (fun W q => nm_law_ways W hE le.g_law_ways q) (by walk_at "pes") fun s11 τ C11 => cal fun R6 hR6 => ways_call (C11.wd F.W) (hR.mono (by decide)) b1.1 b4.1 b4.2 fun s12 aw its ls u h1 h2 h3 h4 => hR6 _ _ ⟨_, _, (C11.add h1 u h2).fold, Nat.le_of_ble_eq_true rfl, fun s13 C13 => ?_⟩) (by rfl)
  exact k s13 CL3 aw its ls (fun i => match i with | 0 => t4 | 1 => t8 | _ => t10) (fun i => match i with | 0 => t9 | 1 => t7 | _ => t6) hC3 h3 h4 C13
/-! ## FlawB -/
local macro_rules | `(tactic| walk_at "fn") => `(tactic| first | exact FN.loc (by assumption) (by rfl) | exact FN.cl (by assumption) (by walk_at "sub") (by assumption) (by rfl) | exact FN.blk (by assumption) (by rfl) (by assumption) (by assumption) (by assumption) (by rfl))
/-- the keys -/
def keyF (ma tu n : Int) (k : Nat) : Int × Int := (((k : Int) + tu).fmod ma, 1 - 2 * (((n + 2).fdiv (2 ^ k)).fmod 2))
def keysF (ma tu n : Int) : List (Int × Int) := (List.range ma.toNat).map (keyF ma tu n)
theorem keysF_take {ma tu n : Int} {i : Nat} (h : i < ma.toNat) : (keysF ma tu n).take (i + 1) = (keysF ma tu n).take i ++ [keyF ma tu n i] := by
  unfold keysF
  rw [List.take_add_one]
  simp [h]
theorem PairsIn.snoc {N N' : List (Addr × Obj)} {kits : List Value} {ks : List (Int × Int)} {p : Int × Int} {t : Addr} {tk td : Tok} (h : PairsIn N kits ks) (hs : ∀ x ∈ N, x ∈ N') (ht : (t, tupOf #[Value.int p.1 tk, Value.int p.2 td]) ∈ N') : PairsIn N' (kits ++ [.ref t]) (ks ++ [p]) := by
  refine ⟨by simp [h.1], fun i q hq => ?_⟩
  by_cases hi : i < ks.length
  · rw [List.getElem?_append_left hi] at hq
    obtain ⟨t', a, b, e1, e2⟩ := h.2 i q hq
    exact ⟨t', a, b, by rw [List.getElem?_append_left (by rw [h.1]; exact hi)]; exact e1, hs _ e2⟩
  · rw [List.getElem?_append_right (by omega)] at hq
    have hz : i - ks.length = 0 := by
      have := (List.getElem?_eq_some_iff.mp hq).1
      simp at this; omega
    rw [hz] at hq
    cases hq
    refine ⟨t, tk, td, ?_, ht⟩
    rw [List.getElem?_append_right (by rw [h.1]; omega), h.1, hz]; rfl

theorem lawA2 {w : World} {mg mb : Str → Option Value} {prog : Program} {A : Around} {E : Value → Shared → Prop} {g : Heap} {s0 s : Shared} {L : Addr} {env : Env} {Q : Flow → Shared → Prop} {CL R : List (Addr × Obj)} {as : Addr} {items : List Value} {tu ma si : Int} {σ : Nat → Tok} {v0 v1 v2 v3 : Option Value}
    (F : Fm w mg mb g env L) (le : LE env L) (hR : Rm A 2) (hl : g.IsList as items.toArray) (hz : items.length ≤ 63) (hm0 : 1 ≤ ma) (hm1 : ma ≤ 3) (hC : CellsL (lawCs L) (cvM tu ma si σ as none none none none none) CL)
    (C : Cx g s0 L lawNs [v0, v1, v2, v3, none, none, none, none, none, none, none, none, none, none, none, none, none, none, none, none, none, none] (CL ++ R) s)
    (k : ∀ s' ak kits c Nm, PairsIn Nm kits (keysF ma tu items.length) → Cx g s0 L lawNs [v0, v1, v2, v3, none, some (.ref ak), none, none, none, none, none, none, none, none, none, none, none, none, none, none, none, none] (CL ++ ((ak, listOf kits.toArray c) :: (Nm ++ R))) s' →
      wpAny (model prog w) A (execs (lawB.drop 8) env) Q E s') :
    wpAny (model prog w) A (execs (lawB.drop 7) env) Q E s := by
  have hh := hR.hh
  have hE := le.E
  have x5 := le.l_keys
  have y5 := le.c_turn
  have y6 := le.c_many
  have y8 := le.c_script
  obtain ⟨os, hos, hoc, nos, hod⟩ := hl
  have nn : ma ≠ 0 := by omega
  refine asLU (swaps_true hE.kind x5.k (by rfl) (by rfl)) (hclAll [Str.ofString "turn", Str.ofString "many", Str.ofString "script"] (by rfl) (List.forall_mem_cons.mpr ⟨y5.some, List.forall_mem_cons.mpr ⟨y6.some, List.forall_mem_cons.mpr ⟨y8.some, fun _ h => nomatch h⟩⟩⟩)) (by rfl) (by decide +kernel)
    (callP (pvs := [.int ma]) C F (.t _) (fun W q => nm_range W hE le.g_range q) (by walk_at "pes") fun s1 τ1 C1 => rng1 C1 fun s2 r t u v C2 => pyI_range C2 (C2.get (.head _)) (small_up (by omega) (by omega) (by omega) (by omega)) rs_up fun s3 I o3 hI3 C3 => ?_) (by intro _; rfl)
  have C4 := C3.swap.drop
  clear C
  have hn : (ma - 0).toNat = ma.toNat := by rw [Int.sub_zero]
  rw [hn] at hI3
  obtain ⟨J, hJ⟩ : ∃ J : Nat → Array Value → List (Addr × Obj) → Prop, ∀ i acc Nm, J i acc Nm ↔ ∃ kits : List Value, acc = kits.toArray ∧ PairsIn Nm kits ((keysF ma tu items.length).take i) := ⟨_, fun _ _ _ => Iff.rfl⟩
  refine lc_blkU C4 F (by rfl) (by decide +kernel) [Str.ofString "k"] (fun Cc cenv g' Bk G hE' => feed_range hh hE' (Bk.loc (by rfl) (by rfl) (by decide))) J ((hJ _ _ _).mpr ⟨[], rfl, rfl, fun i p hp => by simp at hp⟩) hI3 ?_ ?_ ?_ x5 (Nat.le_of_ble_eq_true rfl) ?_
  · simp only [sizeLine]; omega
  · intro i acc Nm q
    obtain ⟨kits, rfl, hk⟩ := (hJ _ _ _).mp q
    have := hk.1
    rw [List.length_take] at this
    simp only [List.size_toArray]; omega
  · intro Cc cenv g' D i acc k' vsC Nm s4 o E' T T' Bk G F' hi q hB C5 hT hT'
    obtain ⟨kits, rfl, hk⟩ := (hJ _ _ _).mp q
    obtain ⟨v, ⟨t4, rfl⟩, rfl⟩ := hB
    rw [show (0 + (i : Int) * 1) = i from by omega] at C5 hT'
    have z0 : IsLoc cenv [Str.ofString "k"] (Str.ofString "k") 0 := Bk.loc (by rfl) (by rfl) (by decide)
    have z1 : IsGlb cenv (Str.ofString "len") := Bk.glb (by rfl) (by decide)
    have hg : ∀ p ∈ CL, g'.get? p.1 = some p.2 := fun p hp => G.n _ _ (List.mem_append_left _ hp)
    have hos' := G.k _ _ hos
    have hi' : i < ma.toNat := hi
    have p2 : ((2 : Int) ^ i).natAbs < 1073741824 ∧ ((2 : Int) ^ i) ≠ 0 := by
      have : i = 0 ∨ i = 1 ∨ i = 2 := by omega
      rcases this with rfl | rfl | rfl <;> decide
    have e1 : ∀ {N : List (Addr × Obj)}, FN cenv g' [Str.ofString "k"] [some (.int i t4)] N (Str.ofString "k") (.int i t4) := .loc z0 (by rfl)
    refine tests_no (tup2 (by rfl) (evI (n := (i + tu).fmod ma) C5 F' ?_ fun s5 t5 C6 => evI (n := 1 - 2 * (((items.length : Int) + 2).fdiv (2 ^ i)).fmod 2) C6 F' ?_ fun s6 t6 C7 => ⟨_, _, C7, fun s7 t7 C8 => ?_⟩))
    · exact PE.mod (PE.add (PE.nI e1) (PE.nI (.blk Bk (by rfl) y5 hC hg (by rfl)))) (PE.nI (.blk Bk (by rfl) y6 hC hg (by rfl))) nn
    · refine PE.sub PE.int (PE.mul PE.int (PE.mod (y := 2) (PE.div (x := (items.length : Int) + 2) (y := 2 ^ i) (PE.add ?_ PE.int) ?_ p2.2 p2.1) PE.int (by decide)) ?_)
      · exact PE.castI (by simp) (PE.lenX (.len z1) (PE.nR (.blk Bk (by rfl) y8 hC hg (by rfl))) (.g hos') hoc hod (by simp; omega) (by rfl))
      · exact PE.castI (show opI .Pow 2 (i : Int) = 2 ^ i by show (2 : Int) ^ (i : Int).toNat = _; rw [Int.toNat_natCast]) (PE.bin (op := .Pow) PE.int (PE.nI e1) ⟨by omega, by omega, by decide⟩)
      · have h0 := Int.fmod_nonneg_of_pos (((items.length : Int) + 2).fdiv (2 ^ i)) (b := 2) (by decide)
        have h1 := Int.fmod_lt_of_pos (((items.length : Int) + 2).fdiv (2 ^ i)) (b := 2) (by decide)
        generalize (((items.length : Int) + 2).fdiv (2 ^ i)).fmod 2 = z at h0 h1
        omega
    · have C9 := C8.perm (N' := (I, o) :: (D, listOf kits.toArray k') :: (t7, tupOf #[.int (keyF ma tu items.length i).1 t5, .int (keyF ma tu items.length i).2 t6]) :: Nm) (List.Perm.trans (.swap _ _ _) ((List.Perm.swap _ _ _).cons _))
      refine hT' _ _ _ ((hJ _ _ _).mpr ⟨kits ++ [.ref t7], by simp, ?_⟩) C9
      rw [keysF_take hi']
      exact hk.snoc (fun _ h => .tail _ h) (.head _)
  · intro D acc k' Nm s4 q C5
    obtain ⟨kits, rfl, hk⟩ := (hJ _ _ _).mp q
    rw [List.take_of_length_le (by simp [keysF])] at hk
    exact k s4 D kits k' Nm hk (Cx.foldM (T := (D, _) :: Nm) C5)
/-! ## FlawC -/
def numF (x : Int) : Int := x.fmod 20001 - 10000
def numsF (xs : List Int) : List Int := [11, -6, 5003] ++ (xs.take 3).map numF
theorem numsF_bound {xs : List Int} : ∀ x ∈ numsF xs, -10000 ≤ x ∧ x ≤ 10000 := by
  intro x hx
  rcases List.mem_append.mp hx with h | h
  · simp at h; rcases h with rfl | rfl | rfl <;> decide
  · obtain ⟨y, _, rfl⟩ := List.mem_map.mp h
    have := Int.fmod_nonneg_of_pos y (b := 20001) (by decide)
    have := Int.fmod_lt_of_pos y (b := 20001) (by decide)
    unfold numF; omega
theorem numsF_len {xs : List Int} : (numsF xs).length ≤ 6 := by
  simp only [numsF, List.length_append, List.length_map, List.length_take, List.length_cons, List.length_nil]; omega
theorem ints_take {a : List Value} {x : List Int} (h : IntsAre a x) : ∀ n, IntsAre (a.take n) (x.take n) := by
  induction h with
  | nil => intro n; simp; exact .nil
  | cons _ _ _ ih => intro n; cases n with
    | zero => exact .nil
    | succ n => exact .cons _ _ (ih n)
theorem ints_snoc {a : List Value} {x : List Int} (h : IntsAre a x) (y : Int) (t : Tok) : IntsAre (a ++ [.int y t]) (x ++ [y]) := ints_app h (.cons _ _ .nil)

theorem lawA3 {w : World} {mg mb : Str → Option Value} {prog : Program} {A : Around} {E : Value → Shared → Prop} {g : Heap} {s0 s : Shared} {L : Addr} {env : Env} {Q : Flow → Shared → Prop} {CL R : List (Addr × Obj)} {as : Addr} {items : List Value} {xs : List Int} {tu ma si : Int} {σ : Nat → Tok} {v0 v1 v2 v3 v5 : Option Value}
    (F : Fm w mg mb g env L) (le : LE env L) (hR : Rm A 2) (hl : g.IsList as items.toArray) (hI : IntsAre items xs) (hz : items.length ≤ 63) (hC : CellsL (lawCs L) (cvM tu ma si σ as none none none none none) CL)
    (C : Cx g s0 L lawNs [v0, v1, v2, v3, none, v5, none, none, none, none, none, none, none, none, none, none, none, none, none, none, none, none] (CL ++ R) s)
    (k : ∀ s' an its, IntsAre its (numsF xs) → Cx g s0 L lawNs [v0, v1, v2, v3, none, v5, none, some (.ref an), none, none, none, none, none, none, none, none, none, none, none, none, none, none] (CL ++ ((an, listOf its.toArray 0) :: R)) s' →
      wpAny (model prog w) A (execs (lawB.drop 9) env) Q E s') :
    wpAny (model prog w) A (execs (lawB.drop 8) env) Q E s := by
  have hh := hR.hh
  have hE := le.E
  have x7 := le.l_numbers
  have y8 := le.c_script
  have hI3 := ints_take hI 3
  refine asE C F x7 (wpAny_BinOp (PyProof.Rows.List_ (evPs (pvs := [.int 11, .int (-6), .int 5003]) F (by walk_at "pes") C fun s1 τ C1 => newL C1 (Nat.le_of_ble_eq_true rfl) fun s2 l3 C2 => ?_))) (by rfl)
  refine lcE (by rfl) (by rfl) (by decide +kernel) (sl3 C2 F (by walk_at "pe") hl (by simp only [sizeLine]; omega) (fun s3 r C3 => pyI_list C3 (C3.get (.head _)) fun s4 I o4 hI4 C4 => ?_) (by intro _ _; rfl)) (by intro _; rfl)
  clear C C2
  have hne : r ≠ I := fun q => by
    have nd := C4.nd
    rw [List.map_cons, List.nodup_cons] at nd
    exact nd.1 (q ▸ .head _)
  obtain ⟨J, hJ⟩ : ∃ J : Nat → Array Value → List (Addr × Obj) → Prop, ∀ i acc Nm, J i acc Nm ↔ ∃ vs', acc = vs'.toArray ∧ IntsAre vs' (((xs.take 3).take i).map numF) ∧ Nm = [] := ⟨_, fun _ _ _ => Iff.rfl⟩
  have hlen : (items.take 3).toArray.size = (xs.take 3).length := by rw [List.size_toArray, hI3.length]
  refine lc_blk C4 F (by rfl) (by decide +kernel) [Str.ofString "x"] (fun Cc cenv g' Bk G hE' => feed_list hh hE' (Bk.loc (by rfl) (by rfl) (by decide)) (G.n _ _ (.head _)) hne) J ((hJ _ _ _).mpr ⟨[], rfl, .nil, rfl⟩) hI4 ?_ ?_ ?_ ?_
  · rw [hlen, List.length_take]; simp only [sizeLine]; omega
  · intro i acc Nm q
    obtain ⟨vs', rfl, hv, _⟩ := (hJ _ _ _).mp q
    have := hv.length
    simp only [List.length_map, List.length_take] at this
    simp only [List.size_toArray]; omega
  · intro Cc cenv g' D i acc k' vsC Nm s5 o E' T T' Bk G F' hi q hB C5 hT hT'
    obtain ⟨vs', rfl, hv, rfl⟩ := (hJ _ _ _).mp q
    obtain ⟨v, hvi, rfl⟩ := hB
    rw [hlen] at hi
    obtain ⟨t, hv'⟩ := ints_at (its := (items.take 3).toArray) hI3 hi
    rw [hv'] at hvi; cases hvi
    have z0 : IsLoc cenv [Str.ofString "x"] (Str.ofString "x") 0 := Bk.loc (by rfl) (by rfl) (by decide)
    refine tests_no (evI (n := numF ((xs.take 3).getD i 0)) C5 F' (PE.sub (PE.mod (PE.nI (.loc z0 (by rfl))) PE.int (by decide)) PE.int) fun s6 t6 C6 => hT' _ _ _ ((hJ _ _ _).mpr ⟨vs' ++ [.int (numF ((xs.take 3).getD i 0)) t6], by simp, ?_, rfl⟩) C6)
    rw [List.take_add_one (l := xs.take 3) (i := i), List.map_append, List.getD_eq_getElem?_getD]
    rw [List.getElem?_eq_getElem hi]
    exact ints_snoc hv _ _
  · intro D acc k' Nm s5 q C5
    obtain ⟨vs', rfl, hv, rfl⟩ := (hJ _ _ _).mp q
    rw [List.take_of_length_le (by omega)] at hv
    have hv2 := hv.length
    rw [List.length_map, List.length_take] at hv2
    refine addL C5 (C5.get (by k_mem)) (C5.get (.head _)) ?_ fun s6 an C6 => ⟨_, _, (C6.sub (N' := (an, _) :: (CL ++ R)) (.cons₂ _ (.cons _ (.cons _ (.cons _ (List.Sublist.refl _)))))).fold, Nat.le_of_ble_eq_true rfl, fun s7 C7 => ?_⟩
    · simp only [List.size_toArray, sizeLine, List.length_cons, List.length_nil]; omega
    · exact k s7 an _ (ints_app (.cons _ _ (.cons _ _ (.cons _ _ .nil))) hv) C7
/-! ## FlawD -/
local macro_rules | `(tactic| walk_at "fn") => `(tactic| first | exact FN.loc (by assumption) (by rfl) | exact FN.cl (by assumption) (by walk_at "sub") (by assumption) (by rfl) | exact FN.blk (by assumption) (by rfl) (by assumption) (by assumption) (by assumption) (by rfl))
theorem lawA4 {w : World} {mg mb : Str → Option Value} {prog : Program} {A : Around} {E : Value → Shared → Prop} {g : Heap} {s0 s : Shared} {L : Addr} {env : Env} {Q : Flow → Shared → Prop} {CL R : List (Addr × Obj)} {as : Addr} {tu ma si : Int} {σ : Nat → Tok} {v0 v1 v2 v3 v5 v7 : Option Value}
    (F : Fm w mg mb g env L) (le : LE env L) (hC : CellsL (lawCs L) (cvM tu ma si σ as none none none none none) CL)
    (C : Cx g s0 L lawNs [v0, v1, v2, v3, none, v5, none, v7, none, none, none, none, none, none, none, none, none, none, none, none, none, none] (CL ++ R) s)
    (k : ∀ s' CL' ar at' ac dk ae ad kd (τ υ : Nat → Tok), CellsL (lawCs L) (cvM tu ma si σ as none none none none (some (.ref ac))) CL' → (dk == sysModules) = false → kd.IsDictOf (intKind prog w) [] →
      Cx g s0 L lawNs [v0, v1, v2, v3, none, v5, none, v7, some (.ref ar), some (.ref at'), some (.ref ae), some (.ref ad), none, none, none, none, none, none, none, none, none, none]
        (CL' ++ ((ad, tupOf #[.int 0 (υ 0), .int 0 (υ 1), .int 0 (υ 2), .int 0 (υ 3)]) :: (ae, tupOf #[.int 0 (τ 0), .int 0 (τ 1), .int 0 (τ 2), .int 0 (τ 3), .ref dk]) :: (dk, kd) :: (ac, listOf #[] 0) :: (at', listOf #[] 0) :: (ar, listOf #[] 0) :: R)) s' →
      wpAny (model prog w) A (execs (lawB.drop 14) env) Q E s') :
    wpAny (model prog w) A (execs (lawB.drop 9) env) Q E s := by
  have hE := le.E
  have x8 := le.l_rows
  have x9 := le.l_texts
  have x10 := le.l_entry
  have x11 := le.l_due
  have y4 := le.c_came
  have lt : ∀ {n m : Nat}, Nat.ble n m = true → n ≤ m := Nat.le_of_ble_eq_true
  refine asE C F x8 (PyProof.Rows.List_ (spl0 (newL C (Nat.zero_le _) fun s1 ar C1 => ⟨_, _, C1.fold, lt rfl, fun s2 C2 => ?_⟩))) (by rfl)
  refine asE C2 F x9 (PyProof.Rows.List_ (spl0 (newL C2 (Nat.zero_le _) fun s3 at' C3 => ⟨_, _, C3.fold, lt rfl, fun s4 C4 => ?_⟩))) (by rfl)
  refine asCl F y4 (PyProof.Rows.List_ (spl0 (newL C4 (Nat.zero_le _) fun s5 ac C5 => ⟨_, _, _, _, hC, C5.fold, fun s6 CL' hC' C6 => ?_⟩))) (by rfl)
  refine asE C6 F x10 (PyProof.Rows.Tuple_ (splC (cInt C6 fun s7 t1 C7 => splC (cInt C7 fun s8 t2 C8 => splC (cInt C8 fun s9 t3 C9 => splC (cInt C9 fun s10 t4 C10 => splC (dictE (newD C10 F fun s11 dk kd hds hk C11 => spl0 (newT C11.fold (lt rfl) fun s12 ae C12 => ⟨_, _, C12.fold, lt rfl, fun s13 C13 => ?_⟩)))
    (by rfl)) (by rfl)) (by rfl)) (by rfl)) (by rfl))) (by rfl)
  refine asE C13 F x11 (PyProof.Rows.Tuple_ (splC (cInt C13 fun s7 u1 C7 => splC (cInt C7 fun s8 u2 C8 => splC (cInt C8 fun s9 u3 C9 => splC (cInt C9 fun s10 u4 C10 => spl0 (newT C10 (lt rfl) fun s12 ad C12 => ⟨_, _, C12.fold, lt rfl, fun s13 C13 => ?_⟩))
    (by rfl)) (by rfl)) (by rfl)) (by rfl))) (by rfl)
  exact k s13 CL' ar at' ac dk ae ad kd (fun i => match i with | 0 => t1 | 1 => t2 | 2 => t3 | _ => t4) (fun i => match i with | 0 => u1 | 1 => u2 | 2 => u3 | _ => u4) hC' hds hk C13

/-- the divisors -/
def partsF (si : Int) : List Int := ((List.range si.toNat).map fun (i : Nat) => ((i : Int) + 1)).filter fun p => si.fmod p == 0
theorem partsF_mem {si p : Int} (h0 : 1 ≤ si) (h : p ∈ partsF si) : 1 ≤ p ∧ p ≤ si ∧ si.fmod p = 0 := by
  unfold partsF at h
  rw [List.mem_filter, List.mem_map] at h
  obtain ⟨⟨i, hi, rfl⟩, h2⟩ := h
  rw [List.mem_range] at hi
  exact ⟨by omega, by omega, by simpa using h2⟩
theorem partsF_len {si : Int} : (partsF si).length ≤ si.toNat := by
  unfold partsF
  refine Nat.le_trans (List.length_filter_le _ _) ?_
  simp

theorem lawA5 {w : World} {mg mb : Str → Option Value} {prog : Program} {A : Around} {E : Value → Shared → Prop} {g : Heap} {s0 s : Shared} {L : Addr} {env : Env} {Q : Flow → Shared → Prop} {CL R : List (Addr × Obj)} {as : Addr} {tu ma si : Int} {σ : Nat → Tok} {ca v0 v1 v2 v3 v5 v7 v8 v9 v10 v11 : Option Value}
    (F : Fm w mg mb g env L) (le : LE env L) (hR : Rm A 2) (hs0 : 1 ≤ si) (hs1 : si ≤ 6) (hC : CellsL (lawCs L) (cvM tu ma si σ as none none none none ca) CL)
    (C : Cx g s0 L lawNs [v0, v1, v2, v3, none, v5, none, v7, v8, v9, v10, v11, none, none, none, none, none, none, none, none, none, none] (CL ++ R) s)
    (k : ∀ s' ap its c, IntsAre its (partsF si) → Cx g s0 L lawNs [v0, v1, v2, v3, none, v5, none, v7, v8, v9, v10, v11, some (.ref ap), none, none, none, none, none, none, none, none, none] (CL ++ ((ap, listOf its.toArray c) :: R)) s' →
      wpAny (model prog w) A (execs (lawB.drop 15) env) Q E s') :
    wpAny (model prog w) A (execs (lawB.drop 14) env) Q E s := by
  have hh := hR.hh
  have hE := le.E
  have x12 := le.l_parts
  have y7 := le.c_size
  refine asLU (swaps_true hE.kind x12.k (by rfl) (by rfl)) (hclAll [Str.ofString "size"] (by rfl) (List.forall_mem_cons.mpr ⟨y7.some, fun _ h => nomatch h⟩)) (by rfl) (by decide +kernel)
    (callP (pvs := [.int 1, .int (si + 1)]) C F (.t _) (fun W q => nm_range W hE le.g_range q) (by walk_at "pes") fun s1 τ1 C1 => rng2 C1 fun s2 r t u v C2 => pyI_range C2 (C2.get (.head _)) (small_up (by omega) (by omega) (by omega) (by omega)) rs_up fun s3 I o3 hI3 C3 => ?_) (by intro _; rfl)
  have C4 := C3.swap.drop
  clear C
  have hn : (si + 1 - 1).toNat = si.toNat := by rw [Int.add_sub_cancel]
  rw [hn] at hI3
  obtain ⟨J, hJ⟩ : ∃ J : Nat → Array Value → List (Addr × Obj) → Prop, ∀ i acc Nm, J i acc Nm ↔ ∃ vs', acc = vs'.toArray ∧ IntsAre vs' (((List.range i).map fun (i : Nat) => ((i : Int) + 1)).filter fun p => si.fmod p == 0) ∧ Nm = [] := ⟨_, fun _ _ _ => Iff.rfl⟩
  refine lc_blkU C4 F (by rfl) (by decide +kernel) [Str.ofString "part"] (fun Cc cenv g' Bk G hE' => feed_range hh hE' (Bk.loc (by rfl) (by rfl) (by decide))) J ((hJ _ _ _).mpr ⟨[], rfl, .nil, rfl⟩) hI3 ?_ ?_ ?_ x12 (Nat.le_of_ble_eq_true rfl) ?_
  · simp only [sizeLine]; omega
  · intro i acc Nm q
    obtain ⟨vs', rfl, hv, _⟩ := (hJ _ _ _).mp q
    have h1 := hv.length
    have h2 := List.length_filter_le (fun p => si.fmod p == 0) ((List.range i).map fun (i : Nat) => ((i : Int) + 1))
    simp only [List.length_map, List.length_range] at h2
    simp only [List.size_toArray]; omega
  · intro Cc cenv g' D i acc k' vsC Nm s4 o E' T T' Bk G F' hi q hB C5 hT hT'
    obtain ⟨vs', rfl, hv, rfl⟩ := (hJ _ _ _).mp q
    obtain ⟨v, ⟨t4, rfl⟩, rfl⟩ := hB
    rw [show (1 + (i : Int) * 1) = (i : Int) + 1 from by omega] at C5 hT' hT
    have z0 : IsLoc cenv [Str.ofString "part"] (Str.ofString "part") 0 := Bk.loc (by rfl) (by rfl) (by decide)
    have hg : ∀ p ∈ CL, g'.get? p.1 = some p.2 := fun p hp => G.n _ _ (List.mem_append_left _ hp)
    have e1 : ∀ {N : List (Addr × Obj)}, FN cenv g' [Str.ofString "part"] [some (.int ((i : Int) + 1) t4)] N (Str.ofString "part") (.int ((i : Int) + 1) t4) := .loc z0 (by rfl)
    refine tests_one (evT (c := (si.fmod ((i : Int) + 1) == 0)) F' (PT.cmp (a := si.fmod ((i : Int) + 1)) (b := 0) (PE.mod (PE.nI (.blk Bk (by rfl) y7 hC hg (by rfl))) (PE.nI e1) (by omega)) PE.int (by rfl) (by with_unfolding_all rfl)) C5 fun s5 C6 => ?_)
    have eq : ((List.range (i + 1)).map fun (i : Nat) => ((i : Int) + 1)).filter (fun p => si.fmod p == 0) = (((List.range i).map fun (i : Nat) => ((i : Int) + 1)).filter fun p => si.fmod p == 0) ++ (if (si.fmod ((i : Int) + 1) == 0) = true then [(i : Int) + 1] else []) := by
      rw [List.range_succ, List.map_append, List.filter_append]
      congr 1
      simp only [List.map_cons, List.map_nil, List.filter_cons, List.filter_nil]
    cases hc : (si.fmod ((i : Int) + 1) == 0) with
    | true =>
      rw [if_pos rfl]
      refine evI C6 F' (PE.nI e1) fun s6 t6 C7 => hT' _ _ _ ((hJ _ _ _).mpr ⟨vs' ++ [.int ((i : Int) + 1) t6], by simp, ?_, rfl⟩) C7
      rw [eq, hc, if_pos rfl]
      exact ints_snoc hv _ _
    | false =>
      rw [if_neg (by decide)]
      refine hT _ _ ((hJ _ _ _).mpr ⟨vs', rfl, ?_, rfl⟩) C6
      rw [eq, hc, if_neg (by decide), List.append_nil]
      exact hv
  · intro D acc k' Nm s4 q C5
    obtain ⟨vs', rfl, hv, rfl⟩ := (hJ _ _ _).mp q
    exact k s4 D vs' k' hv (Cx.foldM (T := [(D, _)]) C5)
/-! ## FlawE -/
theorem Cx.neHead {g : Heap} {s0 s : Shared} {L I a : Addr} {o ob : Obj} {ns : List Str} {vs : List (Option Value)} {N : List (Addr × Obj)} (C : Cx g s0 L ns vs ((I, o) :: N) s) (h : (a, ob) ∈ N) : a ≠ I := fun q => by
  have nd := C.nd
  rw [List.map_cons, List.nodup_cons] at nd
  exact nd.1 (q ▸ List.mem_map.mpr ⟨_, h, rfl⟩)
theorem swaps_cell {kx vx : Expr} {gs : List Comprehension} {scope : Scope} {cpos px : Pos} {x : Str} {n : Nat} {env : Env} (h : env.kindOf x = some .cell) : swapsWith (.DictComp kx vx gs scope cpos) (some (.Name x px)) n env = pure false := by
  show (pure (env.blockKind == .function && env.kindOf x == some .local && px.line == cpos.line && !(scope.names.any fun y => y.1 == x && (y.2 == .local || y.2 == .cell))) : Sem Bool) = _
  rw [h]
  have : ((some NameKind.cell == some NameKind.local) : Bool) = false := by decide
  rw [this, Bool.and_false, Bool.false_and, Bool.false_and]
theorem partsF_nodup {si : Int} : (partsF si).Nodup := by
  unfold partsF
  refine List.Pairwise.filter _ (List.Pairwise.map _ ?_ List.nodup_range)
  intro a b h q
  have : (a : Int) + 1 = (b : Int) + 1 := q
  omega
/-- a table of a row's items, by a function -/
def tabF (f : Int → Int) (ps : List Int) : List (Int × Int) := ps.map fun p => (p, f p)
theorem tabF_step {f : Int → Int} {ps : List Int} {i : Nat} {p : Int} (nd : ps.Nodup) (h : ps[i]? = some p) : stI (tabF f (ps.take i)) p (f p) = tabF f (ps.take (i + 1)) := by
  have hi := (List.getElem?_eq_some_iff.mp h).1
  rw [stI_new]
  · rw [List.take_add_one (l := ps) (i := i), h]
    simp [tabF]
  · intro q
    unfold tabF at q
    rw [List.map_map] at q
    obtain ⟨y, hy, e⟩ := List.mem_map.mp q
    have e : y = p := e
    subst e
    obtain ⟨j, hj, e2⟩ := List.getElem_of_mem hy
    rw [List.length_take] at hj
    rw [List.getElem_take] at e2
    have e3 : ps[i] = y := by
      have := List.getElem?_eq_getElem hi
      rw [this] at h; exact Option.some.inj h
    exact List.pairwise_iff_getElem.mp nd j i (by omega) hi (by omega) (e2.trans e3.symm)
theorem tests_noD {w : World} {prog : Program} {A : Around} {E : Value → Shared → Prop} {s : Shared} {kx vx : Expr} {cenv : Env} {T : Shared → Prop} {T' : Value → Value → Shared → Prop} (h : wpAny (model prog w) A (eval kx cenv) (fun kv s₄ => wpAny (model prog w) A (eval vx cenv) (fun vv s₅ => T' kv vv s₅) E s₄) E s) :
    wpAny (model prog w) A (tests [] cenv) (fun ok s₃ => if ok = true then wpAny (model prog w) A (eval kx cenv) (fun kv s₄ => wpAny (model prog w) A (eval vx cenv) (fun vv s₅ => T' kv vv s₅) E s₄) E s₃ else T s₃) E s := tests_nil (by rw [if_pos rfl]; exact h)

theorem lawA6 {w : World} {mg mb : Str → Option Value} {prog : Program} {A : Around} {E : Value → Shared → Prop} {g : Heap} {s0 s : Shared} {L : Addr} {env : Env} {Q : Flow → Shared → Prop} {CL R : List (Addr × Obj)} {as ap : Addr} {tu ma si : Int} {σ : Nat → Tok} {ca v0 v1 v2 v3 v5 v7 v8 v9 v10 v11 : Option Value} {its : List Value} {c : Nat} {ps : List Int}
    (F : Fm w mg mb g env L) (le : LE env L) (hR : Rm A 2) (hz : ps.length ≤ 1000) (hnd : ps.Nodup) (hI : IntsAre its ps) (hC : CellsL (lawCs L) (cvM tu ma si σ as none none none none ca) CL) (hp : (ap, listOf its.toArray c) ∈ R)
    (C : Cx g s0 L lawNs [v0, v1, v2, v3, none, v5, none, v7, v8, v9, v10, v11, some (.ref ap), none, none, none, none, none, none, none, none, none] (CL ++ R) s)
    (k : ∀ s' CL' ds kd kvs, CellsL (lawCs L) (cvM tu ma si σ as none none (some (.ref ds)) none ca) CL' → (ds == sysModules) = false → kd.IsDictOf (intKind prog w) kvs → IV kvs (tabF (fun _ => 0) ps) → Cx g s0 L lawNs [v0, v1, v2, v3, none, v5, none, v7, v8, v9, v10, v11, some (.ref ap), none, none, none, none, none, none, none, none, none] (CL' ++ ((ds, kd) :: R)) s' →
      wpAny (model prog w) A (execs (lawB.drop 16) env) Q E s') :
    wpAny (model prog w) A (execs (lawB.drop 15) env) Q E s := by
  have hh := hR.hh
  have hE := le.E
  have x12 := le.l_parts
  have y2 := le.c_sums
  have hlen : its.toArray.size = ps.length := by rw [List.size_toArray, hI.length]
  refine asCl (g := g) (s0 := s0) (ns := lawNs) F y2 (dcE (by rfl) (by rfl) (by decide +kernel) (evR C F (by walk_at "pe") fun s1 C1 => pyI_list C1 (C1.get (List.mem_append_right _ hp)) fun s2 I o2 hI2 C2 => ?_) (by intro _; rfl)) (swaps_cell y2.k)
  have hne := C2.neHead (List.mem_append_right _ hp)
  obtain ⟨J, hJ⟩ : ∃ J : Nat → List (Int × Value) → List (Addr × Obj) → Prop, ∀ i acc Nm, J i acc Nm ↔ IV acc (tabF (fun _ => 0) (ps.take i)) ∧ Nm = [] := ⟨_, fun _ _ _ => Iff.rfl⟩
  refine dc_blk C2 F (by rfl) (by decide +kernel) [Str.ofString "part"] (fun Cc cenv g' Bk G hE' => feed_list hh hE' (Bk.loc (by rfl) (by rfl) (by decide)) (G.n _ _ (List.mem_append_right _ hp)) hne) J ((hJ _ _ _).mpr ⟨.nil, rfl⟩) hI2 ?_ ?_ ?_ ?_
  · rw [hlen]; simp only [sizeLine]; omega
  · intro i acc Nm q
    have := ((hJ _ _ _).mp q).1.length
    simp only [tabF, List.length_map, List.length_take] at this
    omega
  · intro Cc cenv g' D i acc k' vsC Nm s4 o E' T T' Bk G F' hi q hB hD C5 hT hT'
    obtain ⟨hv, rfl⟩ := (hJ _ _ _).mp q
    obtain ⟨v, hvi, rfl⟩ := hB
    rw [hlen] at hi
    obtain ⟨t, hv'⟩ := ints_at (its := its.toArray) hI hi
    rw [hv'] at hvi; cases hvi
    have z0 : IsLoc cenv [Str.ofString "part"] (Str.ofString "part") 0 := Bk.loc (by rfl) (by rfl) (by decide)
    refine tests_noD (evI C5 F' (PE.nI (.loc z0 (by rfl))) fun s5 t5 C6 => cInt C6 fun s6 t6 C7 => hT' _ _ _ _ _ ((hJ _ _ _).mpr ⟨?_, rfl⟩) C7)
    rw [← tabF_step (f := fun _ => 0) hnd (p := ps.getD i 0) (by rw [List.getD_eq_getElem?_getD, List.getElem?_eq_getElem hi]; rfl)]
    exact hv.st _ _ _
  · intro D acc k' Nm s4 hds q hD C5
    obtain ⟨hv, rfl⟩ := (hJ _ _ _).mp q
    rw [List.take_of_length_le (by omega)] at hv
    exact ⟨_, _, _, _, hC, Cx.foldM (T := [(D, _)]) C5, fun s5 CL' hC' C6 => k s5 CL' D k' acc hC' hds hD hv C6⟩
/-! ## FlawF -/
/-! the figures of a number -/
def dg (b : Int) : Nat → Int → Int × List Int
  | 0, x => (x, [])
  | k + 1, x => ((dg b k x).1 / b, (dg b k x).1 % b :: (dg b k x).2)
theorem dg_bound {b x : Int} (hb : 2 ≤ b) (h0 : -10000 ≤ x) (h1 : x ≤ 10000) : ∀ k, -10000 ≤ (dg b k x).1 ∧ (dg b k x).1 ≤ 10000
  | 0 => ⟨h0, h1⟩
  | k + 1 => by
    obtain ⟨i0, i1⟩ := dg_bound hb h0 h1 k
    show -10000 ≤ (dg b k x).1 / b ∧ (dg b k x).1 / b ≤ 10000
    have hb0 : 0 < b := by omega
    constructor
    · exact (Int.le_ediv_iff_mul_le hb0).mpr (by omega)
    · exact Int.le_trans (Int.ediv_le_ediv hb0 i1) (Int.ediv_le_self _ (by decide))
theorem dg_fig {b x : Int} (hb : 2 ≤ b) : ∀ k, ∀ f ∈ (dg b k x).2, 0 ≤ f ∧ f < b
  | 0 => fun _ h => nomatch h
  | k + 1 => fun f h => by
    rcases List.mem_cons.mp h with rfl | h
    · exact ⟨Int.emod_nonneg _ (by omega), Int.emod_lt_of_pos _ (by omega)⟩
    · exact dg_fig hb k f h
theorem dg_len {b x : Int} : ∀ k, (dg b k x).2.length = k
  | 0 => rfl
  | k + 1 => by show (dg b k x).2.length + 1 = k + 1; rw [dg_len k]
/-- all but tables and their like lie within -/
def Ss (R R' : List (Addr × Obj)) : Prop := ∀ p ∈ R, (∀ us, p.2.data ≠ .fields us) → p ∈ R'
theorem Ss.rf {R : List (Addr × Obj)} : Ss R R := fun _ h _ => h
theorem Ss.tr {R R' R'' : List (Addr × Obj)} (h : Ss R R') (h' : Ss R' R'') : Ss R R'' := fun p q n => h' p (h p q n) n
theorem Ss.c {R R' : List (Addr × Obj)} {p : Addr × Obj} (h : Ss R R') : Ss R (p :: R') := fun q m n => .tail _ (h q m n)
section
variable {g : Heap} {s0 s : Shared} {L : Addr} {ns : List Str} {vs : List (Option Value)} {P M X R : List (Addr × Obj)}
theorem Cx.toM (C : Cx g s0 L ns vs (P ++ R) s) (h : R.Perm (M ++ X)) : Cx g s0 L ns vs ((P ++ X) ++ M) s :=
  C.perm ((h.append_left P).trans (by rw [List.append_assoc]; exact List.perm_append_comm.append_left P))
theorem Cx.rot {CL : List (Addr × Obj)} {p q r : Addr × Obj} (C : Cx g s0 L ns vs (CL ++ (p :: q :: r :: R)) s) : Cx g s0 L ns vs (q :: (CL ++ (r :: p :: R))) s :=
  C.perm ((List.Perm.append_left _ ((List.Perm.swap _ _ _).trans ((List.Perm.swap _ _ _).cons _))).trans List.perm_middle)
theorem Cx.ofM {p : Addr × Obj} (C : Cx g s0 L ns vs (p :: ((P ++ X) ++ M)) s) : Cx g s0 L ns vs (p :: (P ++ (M ++ X))) s :=
  C.perm (.cons _ (by rw [List.append_assoc]; exact List.perm_append_comm.append_left P))
end
theorem TR.step {R M M' X : List (Addr × Obj)} (h : R.Perm (M ++ X)) (hM : TM M) : Ss R (M' ++ X) := fun p hp hn => by
  rcases List.mem_append.mp (h.mem_iff.mp hp) with q | q
  · obtain ⟨us, e⟩ := hM.fields q
    exact absurd e (hn us)
  · exact List.mem_append_right _ q

theorem lawB1 {w : World} {mg mb : Str → Option Value} {prog : Program} {A : Around} {E : Value → Shared → Prop} {g : Heap} {s0 s : Shared} {L : Addr} {env : Env} {Q : Flow → Shared → Prop} {CL R : List (Addr × Obj)} {Io : Addr × Obj} {as aw ak an ap : Addr} {tu ma si sp bh en x : Int} {τ σ : Nat → Tok} {tx : Tok} {ca su wh fi pa kk r te e d q f l a c wo : Option Value}
    (F : Fm w mg mb g env L) (B : Tb mg g) (le : LE env L) (hR : Rm A 30) (hm0 : 1 ≤ ma) (hm1 : ma ≤ 3) (hs0 : 1 ≤ si) (hs1 : si ≤ 6) (hx0 : -10000 ≤ x) (hx1 : x ≤ 10000) (hTR : TR R) (hC : CellsL (lawCs L) (cvM tu ma si σ as wh fi su pa ca) CL)
    (C : Cx g s0 L lawNs (vsM sp bh en τ aw ak an ap kk (some (.int x tx)) r te e d q f l a c wo) (CL ++ (Io :: R)) s)
    (k : ∀ s' CL' R' af fits cf tq kk' f', TR R' → Ss R R' → (af, listOf fits.toArray cf) ∈ R' → IntsAre fits (dg (si + 1) ma.toNat x).2 → CellsL (lawCs L) (cvM tu ma si σ as wh (some (.ref af)) su pa ca) CL' →
      Cx g s0 L lawNs (vsM sp bh en τ aw ak an ap kk' (some (.int x tx)) r te e d (some (.int (dg (si + 1) ma.toNat x).1 tq)) f' l a c wo) (CL' ++ (Io :: R')) s' →
      wpAny (model prog w) A (execs ((forB (nth lawB 16)).drop 3) env) Q E s') :
    wpAny (model prog w) A (execs (forB (nth lawB 16)) env) Q E s := by
  have hh := hR.hh
  have hE := le.E
  have x4 := le.l_k
  have x6 := le.l_x
  have x13 := le.l_quotient
  have x14 := le.l_figure
  have y1 := le.c_figures
  have y6 := le.c_many
  have y7 := le.c_size
  have lt : ∀ {n m : Nat}, Nat.ble n m = true → n ≤ m := Nat.le_of_ble_eq_true
  refine asP (pv := .int x) C F x13 (by walk_at "pe") (lt rfl) (fun s1 t1 C1 => ?_) (by rfl)
  refine asCl F y1 (PyProof.Rows.List_ (spl0 (newL C1 (Nat.zero_le _) fun s2 af C2 => ⟨_, _, _, _, hC, C2.fold, fun s3 CL1 hC1 C3 => ?_⟩))) (by rfl)
  clear C C1 hC
  have C3 := C3.perm (N' := CL1 ++ (Io :: (af, listOf #[] 0) :: R)) ((List.Perm.swap _ _ _).append_left _)
  refine forS (fun T F' hT => callP (pvs := [.int ma]) C3 F (.t _) (fun W q => nm_range W hE le.g_range q) (by walk_at "pes") fun s4 τ4 C4 => rng1 C4 fun s5 rr u1 u2 u3 C5 => ?_) (by intro _; rfl)
  obtain ⟨J, hJ⟩ : ∃ J : Nat → List (Option Value) → List (Addr × Obj) → Prop, ∀ i vs N, J i vs N ↔ ∃ CL' R' af fits cf tq kk' f', N = CL' ++ (Io :: R') ∧ TR R' ∧ Ss R R' ∧ (af, listOf fits.toArray cf) ∈ R' ∧ IntsAre fits (dg (si + 1) i x).2 ∧ CellsL (lawCs L) (cvM tu ma si σ as wh (some (.ref af)) su pa ca) CL' ∧
      vs = vsM sp bh en τ aw ak an ap kk' (some (.int x tx)) r te e d (some (.int (dg (si + 1) i x).1 tq)) f' l a c wo := ⟨_, fun _ _ _ => Iff.rfl⟩
  refine it_range hh C5.drop hE x4 (C5.get (.head _)) (small_up (by omega) (by omega) (by omega) (by omega)) rs_up J ((hJ _ _ _).mpr ⟨CL1, _, af, [], 0, t1, kk, f, rfl, hTR.cons, Ss.rf.c, .head _, .nil, hC1, rfl⟩) ?_ ?_ ?_
  · intro i vs N q; obtain ⟨_, _, _, _, _, _, _, _, rfl, _, _, _, _, _, rfl⟩ := (hJ _ _ _).mp q; exact lt rfl
  · clear C5 C4 C3 hT hC1
    intro i tk vs N s6 I2 o2 E' T' hi q C hT'
    obtain ⟨CL', R', af, fits, cf, tq, kk', f', rfl, hTR', hSs, haf, hI, hC, rfl⟩ := (hJ _ _ _).mp q
    have bq := dg_bound (b := si + 1) (by omega) hx0 hx1 i
    have C : Cx g s0 L lawNs (vsM sp bh en τ aw ak an ap (some (.int (0 + i * 1) tk)) (some (.int x tx)) r te e d (some (.int (dg (si + 1) i x).1 tq)) f' l a c wo) ((I2, o2) :: (CL' ++ (Io :: R'))) s6 := C
    have C := C.fold
    refine as2 (g := g) (s0 := s0) (ns := lawNs) hh F x13 x14 (by rfl) (by rfl) (callP (pvs := [.int (dg (si + 1) i x).1, .int (si + 1)]) C F pl_63 (fun W q => nm_int_divmod W hE le.g_int_divmod q) (by walk_at "pes") fun s7 τ7 C7 => cal fun R6 hR6 => ?_)
    obtain ⟨M, X, hp, hM⟩ := hTR'
    have C8 := Cx.toM (P := CL' ++ [(I2, o2), Io]) (M := M) (X := X) (by rw [List.append_assoc]; exact C7) hp
    have hk := C8.hidM
    refine im_call (M := M) (C8.tabs hM) (F.W.keeps hk) (B.keeps hk) (hR.mono (by decide)) (by omega) (by omega) (by omega) (by omega) fun s8 p t8 t9 M' tc hn hpo => hR6 _ _ ?_
    have C9 := (C8.callR tc hn hpo (fun us h => by cases h)).ofM
    rw [List.append_assoc] at C9
    have C9 : Cx g s0 L lawNs _ ((p, _) :: (CL' ++ ((I2, o2) :: Io :: (M' ++ X)))) s8 := C9
    have hTR2 : TR (M' ++ X) := ⟨M', X, .refl _, tc.ts.tm⟩
    have hS2 : Ss R' (M' ++ X) := TR.step hp hM
    have haf2 := hS2 _ haf (fun us h => by cases h)
    clear C C7 C8
    generalize hR2 : M' ++ X = R2 at C9 hTR2 hS2 haf2
    clear hn hpo tc hp hM hk hR6
    refine ⟨p, _, _, _, _, rfl, .n (.head _), C9, lt rfl, lt rfl, fun s9 C10 => ?_⟩
    have C10 := C10.drop
    dsimp only [List.set] at C10
    refine asCl F y1 (wpAny_BinOp (PyProof.Rows.List_ (splC (evI (n := (dg (si + 1) i x).1 % (si + 1)) C10 F (by walk_at "pe") fun s10 t10 C11 => spl0 (newL C11 (lt rfl) fun s11 l1 C12 => evR C12 F (by walk_at "pe") fun s12 C13 => addL C13 (C13.get (.head _)) (C13.get (.tail _ (List.mem_append_right _ (.tail _ (.tail _ haf2))))) ?_ fun s13 l2 C14 => ⟨_, _, _, _, hC, C14.swap.drop.fold, fun s14 CL3 hC3 C15 => ?_⟩)) (by rfl)))) (by rfl)
    · have := hI.length
      rw [dg_len] at this
      simp only [List.size_toArray, List.length_cons, List.length_nil, sizeLine]; omega
    · clear C10 C9
      have C16 := C15.rot
      have hf := IntsAre.cons ((dg (si + 1) i x).1 % (si + 1)) t10 hI
      exact nextP (hT'.nx _ _ _ ((hJ _ _ _).mpr ⟨CL3, _, l2, _, _, t8, _, _, rfl, hTR2.cons, (hSs.tr hS2).c, .head _, hf, hC3, rfl⟩) C16)
  · intro vs N s6 q C
    obtain ⟨CL', R', af, fits, cf, tq, kk', f', rfl, hTR', hSs, haf, hI, hC, rfl⟩ := (hJ _ _ _).mp q
    have hn : (ma - 0).toNat = ma.toNat := by rw [Int.sub_zero]
    rw [hn] at hI C
    exact hT.nx _ (k s6 CL' R' af fits cf tq kk' f' hTR' hSs haf hI hC C)
/-! ## FlawG -/
theorem lead_mem {si bh : Int} {fs : List Int} : ∀ c ∈ leadL si bh fs, c = 32 ∨ c = 9 := by
  intro c h
  unfold leadL at h
  rcases List.mem_append.mp h with h | h
  · obtain ⟨l, hl, hc⟩ := List.mem_flatten.mp h
    obtain ⟨f, _, rfl⟩ := List.mem_map.mp hl
    unfold segL at hc
    split at hc
    · rcases List.mem_append.mp hc with hc | hc
      · exact .inl (List.eq_of_mem_replicate hc)
      · exact .inr (by simpa using hc)
    · exact .inl (List.eq_of_mem_replicate hc)
  · exact .inl (List.eq_of_mem_replicate h)
theorem lead_ascii {si bh : Int} {fs : List Int} : (tx (leadL si bh fs)).cps.all (· < 128) = true := by
  show (leadL si bh fs).toArray.all (· < 128) = true
  rw [List.all_toArray, List.all_eq_true]
  intro c h
  rcases lead_mem c h with rfl | rfl <;> rfl
theorem lead_len {si bh : Int} {fs : List Int} (h1 : ∀ f ∈ fs, 0 ≤ f ∧ f ≤ si) (hs : si ≤ 6) (hb : bh ≤ 6) (hz : fs.length ≤ 3) : (leadL si bh fs).length ≤ 24 := by
  unfold leadL
  have := flat_len (ls := fs.map (segL si)) (by
    intro x hx
    obtain ⟨f, hf1, rfl⟩ := List.mem_map.mp hx
    exact segL_len (h1 _ hf1).2 hs)
  rw [List.length_map] at this
  rw [List.length_append, List.length_replicate]; omega

theorem lawB2 {w : World} {mg mb : Str → Option Value} {prog : Program} {A : Around} {E : Value → Shared → Prop} {g : Heap} {s0 s : Shared} {L : Addr} {env : Env} {Q : Flow → Shared → Prop} {CL R : List (Addr × Obj)} {Io : Addr × Obj} {as aw ak an ap af : Addr} {tu ma si sp bh en x qv : Int} {τ σ : Nat → Tok} {tx' tq : Tok} {ca su wh pa kk r te e d f l a c wo : Option Value} {fits wits : List Value} {cf : Nat} {fs ls : List Int}
    (F : Fm w mg mb g env L) (le : LE env L) (hR : Rm A 5) (hs0 : 1 ≤ si) (hs1 : si ≤ 6) (hb0 : 0 ≤ bh) (hb1 : bh < si) (hf : ∀ f ∈ fs, 0 ≤ f ∧ f ≤ si) (hz : fs.length ≤ 3) (hlz : 1 ≤ ls.length ∧ ls.length ≤ 1000)
    (haf : (af, listOf fits.toArray cf) ∈ R) (hfI : IntsAre fits fs) (haw : (aw, listOf wits.toArray 0) ∈ R) (hwI : IntsAre wits ls)
    (p1 : (placeF si ls (leadL si bh fs)).1 = en) (p2 : qv * ls.getD 0 0 + (placeF si ls (leadL si bh fs)).2 = x) (p3 : (ls.getD 0 0).natAbs < 2 ^ 63)
    (hC : CellsL (lawCs L) (cvM tu ma si σ as wh (some (.ref af)) su pa ca) CL)
    (C : Cx g s0 L lawNs (vsM sp bh en τ aw ak an ap kk (some (.int x tx')) r te e d (some (.int qv tq)) f l a c wo) (CL ++ (Io :: R)) s)
    (k : ∀ s' tl ta c', Cx g s0 L lawNs (vsM sp bh en τ aw ak an ap kk (some (.int x tx')) r te e d (some (.int qv tq)) f (some (.str (tx (leadL si bh fs)) tl)) (some (.int (placeF si ls (leadL si bh fs)).2 ta)) c' wo) (CL ++ (Io :: R)) s' →
      wpAny (model prog w) A (execs ((forB (nth lawB 16)).drop 6) env) Q E s') :
    wpAny (model prog w) A (execs ((forB (nth lawB 16)).drop 3) env) Q E s := by
  have hh := hR.hh
  have hE := le.E
  have x1 := le.l_behind
  have x2 := le.l_end
  have x3 := le.l_ways
  have x6 := le.l_x
  have x13 := le.l_quotient
  have x15 := le.l_lead
  have x16 := le.l_ahead
  have x17 := le.l_column
  have y1 := le.c_figures
  have y7 := le.c_size
  have lt : ∀ {n m : Nat}, Nat.ble n m = true → n ≤ m := Nat.le_of_ble_eq_true
  refine asE C F x15 (callP (pvs := [.ref af, .int si, .int bh]) C F pl_183 (fun W q => nm_law_lead W hE le.g_law_lead q) (by walk_at "pes") fun s1 τ1 C1 => cal fun R6 hR6 => lead_call (C1.wd F.W) (hR.mono (by decide)) hs0 hs1 hb0 (by omega) (C1.get (List.mem_append_right _ (.tail _ haf))) hfI hz hf fun s2 t u => hR6 _ _ ⟨_, _, C1.up u, lt rfl, fun s3 C3 => ?_⟩) (by rfl)
  clear C
  have C3 : Cx g s0 L lawNs (vsM sp bh en τ aw ak an ap kk (some (.int x tx')) r te e d (some (.int qv tq)) f (some (.str (tx (leadL si bh fs)) t)) a c wo) (CL ++ (Io :: R)) s3 := C3
  refine as2 (g := g) (s0 := s0) (ns := lawNs) hh F x16 x17 (by rfl) (by rfl) (callP (pvs := [.str (tx (leadL si bh fs)), .int si, .ref aw]) C3 F pl_197 (fun W q => nm_law_place W hE le.g_law_place q) (by walk_at "pes") fun s4 τ4 C4 => cal fun R6 hR6 => place_call (C4.wd F.W) (hR.mono (by decide)) hs0 lead_ascii (C4.get (List.mem_append_right _ (.tail _ haw))) hwI hlz.2 fun s5 p τ5 u h1 h2 => hR6 _ _ ⟨p, _, _, _, _, rfl, .n (.head _), C4.add h1 u h2, lt rfl, lt rfl, fun s6 C6 => ?_⟩)
  have C6 := C6.drop
  have e1 : (tx (leadL si bh fs)).cps.toList = leadL si bh fs := by simp [tx]
  rw [e1, p1] at C6
  clear C3
  obtain ⟨ah, hah⟩ : ∃ ah, ah = (placeF si ls (leadL si bh fs)).2 := ⟨_, rfl⟩
  rw [← hah] at C6 k p2
  have C6 : Cx g s0 L lawNs (vsM sp bh en τ aw ak an ap kk (some (.int x tx')) r te e d (some (.int qv tq)) f (some (.str (tx (leadL si bh fs)) t)) (some (.int ah (τ5 0))) (some (.int en (τ5 1))) wo) (CL ++ (Io :: R)) s6 := C6
  obtain ⟨tw, htw⟩ := ints_at (its := wits.toArray) hwI (i := 0) (by omega)
  have hc : ((en != en) || (qv * ls.getD 0 0 + ah != x)) = false := by rw [p2]; simp
  refine ifT (c := (en != en) || (qv * ls.getD 0 0 + ah != x)) C6 F (PT.or (PT.cmp (a := en) (b := en) ?_ ?_ (by rfl) (by with_unfolding_all rfl)) fun _ => PT.cmp (a := qv * ls.getD 0 0 + ah) (b := x) (PE.add (PE.mul (y := ls.getD 0 0) ?_ ?_ p3) ?_) ?_ (by rfl) (by with_unfolding_all rfl)) (fun q => by rw [hc] at q; cases q) fun _ s7 T hT C7 => nextP (hT.nx _ ?_)
  · walk_at "pe"
  · walk_at "pe"
  · walk_at "pe"
  · refine PE.itI (l := aw) (its := wits.toArray) (k := 0) (n := 0) ?_ ?_ PE.int (Int.le_refl _) ?_ ?_ (by rfl)
    · walk_at "pe"
    · exact Kn.s (X := R) (by walk_at "sub") haw
    · omega
    · exact ⟨_, htw⟩
  · walk_at "pe"
  · walk_at "pe"
  exact k s7 t _ _ C7
/-! ## FlawH -/
theorem Cx.addMod {g : Heap} {s0 s s1 : Shared} {L : Addr} {ns : List Str} {vs vs1 : List (Option Value)} {N N1 T : List (Addr × Obj)} (C : Cx g s0 L ns vs N s) (C1 : Cx g s0 L ns vs1 N1 s1) (hN : N1.map (·.1) = N.map (·.1)) (hn : ∀ p ∈ T, s.heap.get? p.1 = none) (nd : (T.map (·.1)).Nodup) (ho : ∀ p ∈ T, s1.heap.get? p.1 = some p.2) :
    Cx g s0 L ns vs1 (T ++ N1) s1 := by
  refine ⟨C1.fr, fun p hp => ?_, ?_, C1.same⟩
  · rcases List.mem_append.mp hp with hp | hp
    · exact ⟨ho p hp, (C.ne (hn p hp)).1, (C.ne (hn p hp)).2.1⟩
    · exact C1.nw p hp
  · rw [List.map_append, hN, List.nodup_append]
    refine ⟨nd, C.nd, fun a ha b hb e => ?_⟩
    obtain ⟨p, hp, rfl⟩ := List.mem_map.mp ha
    exact (C.ne (hn p hp)).2.2 (e ▸ hb)
theorem tx_x (l : List Nat) : tx l ++ Str.ofString "x\t " = tx (l ++ [120, 9, 32]) := by
  rw [show Str.ofString "x\t " = tx [120, 9, 32] from by decide +kernel, tx_app]

theorem lawB3 {w : World} {mg mb : Str → Option Value} {prog : Program} {A : Around} {E : Value → Shared → Prop} {g : Heap} {s0 s : Shared} {L : Addr} {env : Env} {Q : Flow → Shared → Prop} {CL R : List (Addr × Obj)} {Io : Addr × Obj} {as : Addr} {tu ma si : Int} {σ : Nat → Tok} {tl : Tok} {ca fi su wh pa v0 v1 v2 v3 v4 v5 v6 v7 v8 v9 v10 v11 v12 v13 v14 v16 v17 v18 v19 v20 v21 : Option Value} {l : List Nat}
    (F : Fm w mg mb g env L) (le : LE env L) (hR : Rm A 5) (hl : ∀ a ∈ l, a = 32 ∨ a = 9) (hz : l.length ≤ 100)
    (hC : CellsL (lawCs L) (cvM tu ma si σ as wh fi su pa ca) CL)
    (C : Cx g s0 L lawNs [v0, v1, v2, v3, v4, v5, v6, v7, v8, v9, v10, v11, v12, v13, v14, some (.str (tx l) tl), v16, v17, v18, v19, v20, v21] (CL ++ (Io :: R)) s)
    (k : ∀ s' CL' x dx an at' es m cs its b n nt t1 t2 t3, WsI l cs b n nt → IntsAre its.toList cs → getL "n" es = some (some (.int n t1)) → getL "nt" es = some (some (.int nt t2)) → getL "norm" es = some (some (.ref an)) → getL "indent_level" es = some none →
      CellsL (lawCs L) (cvM tu ma si σ as (some (.ref x)) fi su pa ca) CL' →
      Cx g s0 L lawNs [v0, v1, v2, v3, v4, v5, v6, v7, v8, v9, v10, v11, v12, v13, v14, some (.str (tx l) tl), v16, v17, v18, v19, v20, v21] (CL' ++ (Io :: (an, tupOf #[.ref at', .int b t3]) :: (at', tupOf its) :: (dx, PySem.W.dictOf es m) :: (x, instObj 174 dx) :: R)) s' →
      wpAny (model prog w) A (execs ((forB (nth lawB 16)).drop 7) env) Q E s') :
    wpAny (model prog w) A (execs ((forB (nth lawB 16)).drop 6) env) Q E s := by
  have hh := hR.hh
  have hE := le.E
  have x15 := le.l_lead
  have y0 := le.c_white
  have lt : ∀ {n m : Nat}, Nat.ble n m = true → n ≤ m := Nat.le_of_ble_eq_true
  refine asCl (g := g) (s0 := s0) (ns := lawNs) F y0 (callP (pvs := [.str (tx l ++ Str.ofString "x\t ")]) C F pl_174 (fun W q => nm_Whitespace W hE le.g_Whitespace q) (.cons (PE.sadd (PE.nS (by walk_at "fn")) PE.str ?_) .nil (by rfl)) fun s1 τ1 C1 => clsE (fI := 129) C1 F (by kernel_rfl) (by kernel_rfl) (by kernel_rfl) fun x dx s2 R' hne C2 hR' => ?_) (by rfl)
  · rw [show (Str.ofString "x\t ").length = 3 from by decide +kernel]
    simp only [tx, Str.length, List.size_toArray, sizeLine]; omega
  have hk2 : ∀ b o, g.get? b = some o → (hideAll s2.heap [dx]).get? b = some o := fun b o e => hideAll_get _ (C2.fr.keep _ _ e) fun q => by
    rw [List.mem_singleton.mp q, (C2.nw _ (.head _)).2.2] at e; cases e
  refine init_call (l := l) (c := 120) (rest := [9, 32]) (F.W.keeps hk2) (Rm.under (hR.mono (by decide))) (C2.get (.tail _ (.head _))) (C2.get (.head _)) hne ?_ ?_ hl (by decide) (by omega) fun s3 kp wo => hR' _ ?_
  · rw [tx_x]; simp [tx]
  · rw [tx_x]
    show (l ++ [120, 9, 32]).toArray.all (· < 128) = true
    rw [List.all_toArray, List.all_append, Bool.and_eq_true]
    refine ⟨List.all_eq_true.mpr fun c h => ?_, by decide⟩
    rcases hl c h with rfl | rfl <;> rfl
  · obtain ⟨es, m, cs, its, b, n, nt, t1, t2, t3, an, at', hw, hI, hd, e1, e2, e3, e4, h5, h6, h7, h8, h9⟩ := wo.ex
    have C3 := Cx.mod (M := [(dx, PySem.W.dictOf [] 0)]) (M' := [(dx, PySem.W.dictOf es m)]) C2 rfl kp (fun p hp => by rw [List.mem_singleton.mp hp]; exact hd)
    have C4 := C2.addMod (T := [(an, tupOf #[.ref at', .int b t3]), (at', tupOf its)]) C3 rfl (fun p hp => by
      rcases List.mem_cons.mp hp with rfl | hp
      · exact h7
      · rw [List.mem_singleton.mp hp]; exact h8) (by simpa using h9) (fun p hp => by
      rcases List.mem_cons.mp hp with rfl | hp
      · exact h5
      · rw [List.mem_singleton.mp hp]; exact h6)
    have C5 := Cx.foldM (T := [(an, tupOf #[.ref at', .int b t3]), (at', tupOf its), (dx, PySem.W.dictOf es m), (x, instObj 174 dx)]) C4
    exact ⟨_, _, _, _, hC, C5, fun s4 CL' hC' C6 => k s4 CL' x dx an at' es m cs its b n nt t1 t2 t3 hw hI e1 e2 e3 e4 hC' (C6.perm (List.Perm.append_left _ (List.perm_middle (l₁ := [_, _, _, _]))))⟩
/-! ## FlawI -/
/-- a table made of a row's items, in the order of their first coming -/
def mkD (val : Int → Int) (l : List Int) : List (Int × Int) := l.foldl (fun d f => stI d f (val f)) []
theorem mkD_step {val : Int → Int} {l : List Int} {i : Nat} {f : Int} (h : l[i]? = some f) : mkD val (l.take (i + 1)) = stI (mkD val (l.take i)) f (val f) := by
  unfold mkD
  rw [List.take_add_one (l := l) (i := i), h, List.foldl_append]
  rfl
theorem mkD_len {val : Int → Int} (l : List Int) : (mkD val l).length ≤ l.length := by
  have key : ∀ (l : List Int) (acc : List (Int × Int)), (l.foldl (fun d f => stI d f (val f)) acc).length ≤ acc.length + l.length := by
    intro l
    induction l with
    | nil => intro acc; simp
    | cons p l ih => intro acc; rw [List.foldl_cons]; have := ih (stI acc p (val p)); have := stI_len acc p (val p); rw [List.length_cons]; omega
  have h := key l []
  rw [List.length_nil, Nat.zero_add] at h
  exact h
def cntF (l : List Int) : List (Int × Int) := mkD (fun f => (l.count f : Nat)) l

theorem lawB4 {w : World} {mg mb : Str → Option Value} {prog : Program} {A : Around} {E : Value → Shared → Prop} {g : Heap} {s0 s : Shared} {L : Addr} {env : Env} {Q : Flow → Shared → Prop} {CL R : List (Addr × Obj)} {Io : Addr × Obj} {as af x dx ae dk : Addr} {tu ma si ah e0 e1 e2 e3 n nt : Int} {σ τ : Nat → Tok} {ta t1 t2 : Tok} {ca su pa v0 v1 v2 v3 v4 v5 v6 v7 v8 v9 v11 v12 v13 v14 v15 v17 v18 v19 v20 v21 : Option Value}
    {fits : List Value} {cf m : Nat} {fs : List Int} {es : List DictEntry} {kd : Obj} {kvs : List (Int × Value)} {ms : List (Int × Int)}
    (F : Fm w mg mb g env L) (le : LE env L) (hR : Rm A 5) (hz : fs.length ≤ 3) (hmz : ms.length ≤ 100)
    (haf : (af, listOf fits.toArray cf) ∈ R) (hfI : IntsAre fits fs) (hx : (x, instObj 174 dx) ∈ R) (hdx : (dx, PySem.W.dictOf es m) ∈ R) (hn : getL "n" es = some (some (.int n t1))) (hnt : getL "nt" es = some (some (.int nt t2)))
    (hae : (ae, tupOf #[.int e0 (τ 0), .int e1 (τ 1), .int e2 (τ 2), .int e3 (τ 3), .ref dk]) ∈ R) (hdk : (dk, kd) ∈ R) (hD : kd.IsDictOf (intKind prog w) kvs) (hV : IV kvs ms) (hds : (dk == sysModules) = false)
    (hC : CellsL (lawCs L) (cvM tu ma si σ as (some (.ref x)) (some (.ref af)) su pa ca) CL)
    (C : Cx g s0 L lawNs [v0, v1, v2, v3, v4, v5, v6, v7, v8, v9, some (.ref ae), v11, v12, v13, v14, v15, some (.int ah ta), v17, v18, v19, v20, v21] (CL ++ (Io :: R)) s)
    (k : ∀ s' p d kd' kvs' (υ : Nat → Tok), (d == sysModules) = false → kd'.IsDictOf (intKind prog w) kvs' → IV kvs' (addF ms (cntF fs)) →
      Cx g s0 L lawNs [v0, v1, v2, v3, v4, v5, v6, v7, v8, v9, some (.ref p), v11, v12, v13, v14, v15, some (.int ah ta), v17, v18, v19, v20, v21] (CL ++ (Io :: (p, tupOf #[.int (1 + e0) (υ 0), .int (nt + e1) (υ 1), .int (ah + e2) (υ 2), .int (n + e3) (υ 3), .ref d]) :: (d, kd') :: R)) s' →
      wpAny (model prog w) A (execs ((forB (nth lawB 16)).drop 8) env) Q E s') :
    wpAny (model prog w) A (execs ((forB (nth lawB 16)).drop 7) env) Q E s := by
  have hh := hR.hh
  have hE := le.E
  have x10 := le.l_entry
  have x16 := le.l_ahead
  have y0 := le.c_white
  have y1 := le.c_figures
  have lt : ∀ {n m : Nat}, Nat.ble n m = true → n ≤ m := Nat.le_of_ble_eq_true
  have mR : ∀ {p : Addr × Obj}, p ∈ R → p ∈ CL ++ (Io :: R) := fun h => List.mem_append_right _ (.tail _ h)
  have r1 : RdA (KF w) 174 (Str.ofString "nt") := ⟨by kernel_rfl, by kernel_rfl, by kernel_rfl⟩
  have r2 : RdA (KF w) 174 (Str.ofString "n") := ⟨by kernel_rfl, by kernel_rfl, by kernel_rfl⟩
  have hlen : fits.toArray.size = fs.length := by rw [List.size_toArray, hfI.length]
  refine asE C F x10 (callE (nm_add_func_stats (C.wd F.W) hE le.g_add_func_stats (callW F.W pl_98 (by rfl) (by rfl) (splC (evR C F (by walk_at "pe") fun s1 C1 => splC (PyProof.Rows.Tuple_ (splC (cInt C1 fun s2 t3 C2 => splC (atE C2 F (by walk_at "pe") (.n (mR hx)) (.n (mR hdx)) r1 hnt (by rfl) (fun s3 C3 =>
    splC (evI C3 F (by walk_at "pe") fun s4 t4 C4 => splC (atE C4 F (by walk_at "pe") (.n (mR hx)) (.n (mR hdx)) r2 hn (by rfl) (fun s5 C5 => splC (dcE ?_ (by rfl) (by decide +kernel) (evR C5 F (by walk_at "pe") fun s6 C6 => pyI_list C6 (C6.get (mR haf)) fun s7 I o7 hI7 C7 => ?_) (by intro _; rfl)) (by rfl)) (by rfl) (by intro _; rfl)) (by rfl)) (by rfl)) (by rfl) (by intro _; rfl)) (by rfl)) (by rfl))) (by rfl)) (by rfl))))) (by rfl)
  · exact hclAll [Str.ofString "figures"] (by rfl) (List.forall_mem_cons.mpr ⟨y1.some, fun _ h => nomatch h⟩)
  have hne := C7.neHead (mR haf)
  obtain ⟨J, hJ⟩ : ∃ J : Nat → List (Int × Value) → List (Addr × Obj) → Prop, ∀ i acc Nm, J i acc Nm ↔ IV acc (mkD (fun f => (fs.count f : Nat)) (fs.take i)) ∧ Nm = [] := ⟨_, fun _ _ _ => Iff.rfl⟩
  refine dc_blk C7 F (by rfl) (by decide +kernel) [Str.ofString "f"] (fun Cc cenv g' Bk G hE' => feed_list hh hE' (Bk.loc (by rfl) (by rfl) (by decide)) (G.n _ _ (mR haf)) hne) J ((hJ _ _ _).mpr ⟨.nil, rfl⟩) hI7 ?_ ?_ ?_ ?_
  · rw [hlen]; simp only [sizeLine]; omega
  · intro i acc Nm q
    have h1 := ((hJ _ _ _).mp q).1.length
    have h2 := mkD_len (val := fun f => (fs.count f : Nat)) (fs.take i)
    rw [List.length_take] at h2
    omega
  · intro Cc cenv g' D i acc k' vsC Nm s8 o E' T T' Bk G F' hi q hB hD' C8 hT hT'
    obtain ⟨hv, rfl⟩ := (hJ _ _ _).mp q
    obtain ⟨v, hvi, rfl⟩ := hB
    rw [hlen] at hi
    obtain ⟨t, hv'⟩ := ints_at (its := fits.toArray) hfI hi
    rw [hv'] at hvi; cases hvi
    have z0 : IsLoc cenv [Str.ofString "f"] (Str.ofString "f") 0 := Bk.loc (by rfl) (by rfl) (by decide)
    have hg : ∀ p ∈ CL, g'.get? p.1 = some p.2 := fun p hp => G.n _ _ (List.mem_append_left _ hp)
    refine tests_noD (evI C8 F' (PE.nI (.loc z0 (by rfl))) fun s9 t9 C9 => cntE C9 F' (PE.nR (.blk Bk (by rfl) y1 hC hg (by rfl))) (PE.nI (.loc z0 (by rfl))) (.g (G.n _ _ (mR haf))) hfI (by rfl) (by rfl) (by rfl) fun s10 t10 C10 => hT' _ _ _ _ _ ((hJ _ _ _).mpr ⟨?_, rfl⟩) C10)
    rw [mkD_step (f := fs.getD i 0) (by rw [List.getD_eq_getElem?_getD, List.getElem?_eq_getElem hi]; rfl)]
    exact hv.st _ _ _
  · intro D acc k' Nm s8 hds' q hD' C8
    obtain ⟨hv, rfl⟩ := (hJ _ _ _).mp q
    rw [List.take_of_length_le (by omega)] at hv
    have hcz := mkD_len (val := fun f => (fs.count f : Nat)) fs
    refine spl0 (newT C8 (lt rfl) fun s9 p2 C9 => spl0 ⟨⟨_, _, _, _, _, C9⟩, cal fun R6 hR6 => afs_call (C9.wd F.W) (hR.mono (by decide)) (C9.get (.tail _ (.tail _ (mR hae)))) (C9.get (.head _)) (C9.get (.tail _ (.tail _ (mR hdk)))) hD hV hds (C9.get (.tail _ (.head _))) hD' hv hds' (by omega) fun s10 p d kd' kvs' u1 u2 u3 u4 u h1 h2 h3 h4 h5 h6 h7 h8 => hR6 _ _ ?_⟩)
    have C10 := C9.addMany (T := [(p, _), (d, kd')]) (fun q hq => by
      rcases List.mem_cons.mp hq with rfl | hq
      · exact h1
      · rw [List.mem_singleton.mp hq]; exact h2) (by simpa using h3) u (fun q hq => by
      rcases List.mem_cons.mp hq with rfl | hq
      · exact h5
      · rw [List.mem_singleton.mp hq]; exact h6)
    have C11 := C10.sub (N' := (p, _) :: (d, kd') :: (CL ++ (Io :: R))) (.cons₂ _ (.cons₂ _ (.cons _ (.cons _ (List.Sublist.refl _)))))
    have C12 := Cx.foldM (T := [(p, _), (d, kd')]) C11
    refine ⟨_, _, C12, lt rfl, fun s11 C13 => ?_⟩
    exact k s11 p d kd' kvs' (fun i => match i with | 0 => u1 | 1 => u2 | 2 => u3 | _ => u4) h4 h7 h8 (C13.perm (List.Perm.append_left _ (List.perm_middle (l₁ := [_, _]))))
/-! ## FlawJ -/
theorem lawB5 {w : World} {mg mb : Str → Option Value} {prog : Program} {A : Around} {E : Value → Shared → Prop} {g : Heap} {s0 s : Shared} {L : Addr} {env : Env} {Q : Flow → Shared → Prop} {CL R : List (Addr × Obj)} {Io : Addr × Obj} {as af ad ac : Addr} {tu ma si ah e0 e1 e2 e3 : Int} {σ τ : Nat → Tok} {ta tl : Tok} {su wh pa v0 v1 v2 v3 v4 v5 v6 v7 v8 v9 v10 v12 v13 v14 v17 v18 v19 v20 v21 : Option Value}
    {fits cits : List Value} {cf cc : Nat} {l : List Nat}
    (F : Fm w mg mb g env L) (le : LE env L) (hz : l.length ≤ 1000) (hfz : fits.length ≤ 3) (hcz : cits.length ≤ 1000)
    (had : (ad, tupOf #[.int e0 (τ 0), .int e1 (τ 1), .int e2 (τ 2), .int e3 (τ 3)]) ∈ R) (haf : (af, listOf fits.toArray cf) ∈ R) (hac : (ac, listOf cits.toArray cc) ∈ R)
    (hC : CellsL (lawCs L) (cvM tu ma si σ as wh (some (.ref af)) su pa (some (.ref ac))) CL)
    (C : Cx g s0 L lawNs [v0, v1, v2, v3, v4, v5, v6, v7, v8, v9, v10, some (.ref ad), v12, v13, v14, some (.str (tx l) tl), some (.int ah ta), v17, v18, v19, v20, v21] (CL ++ (Io :: R)) s)
    (k : ∀ s' CL' a p (υ : Nat → Tok), CellsL (lawCs L) (cvM tu ma si σ as wh (some (.ref af)) su pa (some (.ref a))) CL' →
      Cx g s0 L lawNs [v0, v1, v2, v3, v4, v5, v6, v7, v8, v9, v10, some (.ref p), v12, v13, v14, some (.str (tx l) tl), some (.int ah ta), v17, v18, v19, v20, v21] (CL' ++ (Io :: (a, listOf (cits ++ fits).toArray 0) :: (p, tupOf #[.int (e0 + 1) (υ 0), .int (e1 + Txt.count (tx l) (Str.ofString "\t")) (υ 1), .int (e2 + ah) (υ 2), .int (e3 + l.length) (υ 3)]) :: R)) s' →
      wpAny (model prog w) A (execs ((forB (nth lawB 16)).drop 10) env) Q E s') :
    wpAny (model prog w) A (execs ((forB (nth lawB 16)).drop 8) env) Q E s := by
  have hE := le.E
  have x11 := le.l_due
  have x15 := le.l_lead
  have x16 := le.l_ahead
  have y1 := le.c_figures
  have y4 := le.c_came
  have g8 := le.g_len
  have lt : ∀ {n m : Nat}, Nat.ble n m = true → n ≤ m := Nat.le_of_ble_eq_true
  have mR : ∀ {p : Addr × Obj}, p ∈ R → p ∈ CL ++ (Io :: R) := fun h => List.mem_append_right _ (.tail _ h)
  have ti : ∀ {i : Nat} {e : Expr} {px p : Pos} {v : Int} {t : Tok}, PE (FN env g lawNs [v0, v1, v2, v3, v4, v5, v6, v7, v8, v9, v10, some (.ref ad), v12, v13, v14, some (.str (tx l) tl), some (.int ah ta), v17, v18, v19, v20, v21] (CL ++ (Io :: R))) (Kn g (CL ++ (Io :: R))) e (.int i) → i < 4 → (#[.int e0 (τ 0), .int e1 (τ 1), .int e2 (τ 2), .int e3 (τ 3)] : Array Value)[i]? = some (.int v t) → noSlice e = true →
      PE (FN env g lawNs [v0, v1, v2, v3, v4, v5, v6, v7, v8, v9, v10, some (.ref ad), v12, v13, v14, some (.str (tx l) tl), some (.int ah ta), v17, v18, v19, v20, v21] (CL ++ (Io :: R))) (Kn g (CL ++ (Io :: R))) (.Subscript (.Name (Str.ofString "due") px) e p) (.int v) := fun {i e px p v t} h1 h2 h3 h4 =>
    PE.titem (t := t) (PE.nR (.loc x11 (by rfl))) (.n (mR had)) h1 (by omega) (by omega) (by simpa using h3) h4
  refine asE C F x11 (PyProof.Rows.Tuple_ (splC (evI (n := e0 + 1) C F (PE.add (ti (i := 0) PE.int (by decide) (by rfl) (by rfl)) PE.int) fun s1 u1 C1 =>
    splC (wpAny_BinOp (evI (n := e1) C1 F (ti (i := 1) PE.int (by decide) (by rfl) (by rfl)) fun s2 u2 C2 => strM C2 F (PE.nS (.loc x15 (by rfl))) (by rfl) (by rfl) (by rfl) PySem.F.slot_str_count PySem.F.type_str_count fun s3 u3 C3 => cStr C3 fun s4 u4 C4 => SC.count (oAdd (C4.toks _) fun s5 u5 C5 =>
    splC (evI (n := e2 + ah) C5 F (PE.add (ti (i := 2) PE.int (by decide) (by rfl) (by rfl)) (PE.nI (.loc x16 (by rfl)))) fun s6 u6 C6 =>
    splC (wpAny_BinOp (evI (n := e3) C6 F (ti (i := 3) PE.int (by decide) (by rfl) (by rfl)) fun s7 u7 C7 => callP (pvs := [.str (tx l)]) C7 F (.b "len") (fun W q => nm_len W hE g8 q) (.cons (PE.nS (.loc x15 (by rfl))) .nil (by rfl)) fun s8 τ8 C8 => len_str ?_ (oAdd (C8.toks _) fun s9 u9 C9 =>
    spl0 (newT C9 (lt rfl) fun s10 p C10 => ⟨_, _, C10.fold, lt rfl, fun s11 C11 => ?_⟩)))) (by rfl)) (by rfl)))) (by rfl)) (by rfl))) (by rfl)
  · simp only [tx, Str.length, List.size_toArray]; omega
  have C11 := C11.perm (N' := CL ++ (Io :: (p, _) :: R)) (List.Perm.append_left _ (.swap _ _ _))
  have e3' : e3 + ((tx l).length : Int) = e3 + l.length := by simp [tx, Str.length]
  rw [e3'] at C11
  refine asCl (g := g) (s0 := s0) (ns := lawNs) F y4 (wpAny_BinOp (evR (a := ac) C11 F (PE.nR (.cl hC .l y4 (by rfl))) fun s12 C12 => evR (a := af) C12 F (PE.nR (.cl hC .l y1 (by rfl))) fun s13 C13 => addL C13 (C13.get (List.mem_append_right _ (.tail _ (.tail _ hac)))) (C13.get (List.mem_append_right _ (.tail _ (.tail _ haf)))) ?_ fun s14 a C14 => ⟨_, _, _, _, hC, C14.fold, fun s15 CL' hC' C15 => ?_⟩)) (by rfl)
  · simp only [List.size_toArray, sizeLine]; omega
  · exact k s15 CL' a p (fun i => match i with | 0 => u1 | 1 => u5 | 2 => u6 | _ => u9) hC' (C15.perm (List.Perm.append_left _ (.swap _ _ _)))
/-! ## FlawK -/
theorem stI_map {val : Int → Int} {ms : List (Int × Int)} {k : Int} : stI (ms.map fun p => (p.1, val p.1)) k (val k) = (stI ms k 0).map fun p => (p.1, val p.1) := by
  unfold stI
  have e : (ms.map fun p => (p.1, val p.1)).any (fun kv => kv.1 = k) = ms.any (fun kv => kv.1 = k) := by
    rw [List.any_map]; rfl
  rw [e]
  split
  · rw [List.map_map, List.map_map]
    apply List.map_congr_left
    intro p _
    simp only [Function.comp]
    by_cases h : p.1 = k
    · rw [if_pos h, if_pos h, h]
    · rw [if_neg h, if_neg h]
  · rw [List.map_append]; rfl
theorem mkD_map {val : Int → Int} {l : List Int} : mkD val l = (mkD (fun _ => 0) l).map fun p => (p.1, val p.1) := by
  have key : ∀ (l : List Int) (acc : List (Int × Int)), l.foldl (fun d f => stI d f (val f)) (acc.map fun p => (p.1, val p.1)) = (l.foldl (fun d f => stI d f 0) acc).map fun p => (p.1, val p.1) := by
    intro l
    induction l with
    | nil => intro acc; rfl
    | cons f l ih => intro acc; rw [List.foldl_cons, List.foldl_cons, stI_map, ih]
  exact key l []

theorem lawB7 {w : World} {mg mb : Str → Option Value} {prog : Program} {A : Around} {E : Value → Shared → Prop} {g : Heap} {s0 s : Shared} {L : Addr} {env : Env} {Q : Flow → Shared → Prop} {CL R : List (Addr × Obj)} {Io : Addr × Obj} {as ae ad ac dk : Addr} {tu ma si e0 e1 e2 e3 : Int} {σ τ υ : Nat → Tok} {fi su wh pa v0 v1 v2 v3 v4 v5 v6 v7 v8 v9 v12 v13 v14 v15 v16 v17 v18 v19 v20 v21 : Option Value}
    {cits : List Value} {cc : Nat} {cs : List Int} {kd : Obj} {kvs : List (Int × Value)}
    (F : Fm w mg mb g env L) (le : LE env L) (hR : Rm A 5) (hu : A.units + 64 < cLine) (hz : cs.length ≤ 1000)
    (hae : (ae, tupOf #[.int e0 (τ 0), .int e1 (τ 1), .int e2 (τ 2), .int e3 (τ 3), .ref dk]) ∈ R) (had : (ad, tupOf #[.int e0 (υ 0), .int e1 (υ 1), .int e2 (υ 2), .int e3 (υ 3)]) ∈ R) (hac : (ac, listOf cits.toArray cc) ∈ R) (hcI : IntsAre cits cs)
    (hdk : (dk, kd) ∈ R) (hD : kd.IsDictOf (intKind prog w) kvs) (hV : IV kvs (cntF cs)) (hds : (dk == sysModules) = false)
    (hC : CellsL (lawCs L) (cvM tu ma si σ as wh fi su pa (some (.ref ac))) CL)
    (C : Cx g s0 L lawNs [v0, v1, v2, v3, v4, v5, v6, v7, v8, v9, some (.ref ae), some (.ref ad), v12, v13, v14, v15, v16, v17, v18, v19, v20, v21] (CL ++ (Io :: R)) s)
    (k : ∀ s', Cx g s0 L lawNs [v0, v1, v2, v3, v4, v5, v6, v7, v8, v9, some (.ref ae), some (.ref ad), v12, v13, v14, v15, v16, v17, v18, v19, v20, v21] (CL ++ (Io :: R)) s' →
      wpAny (model prog w) A (execs ((forB (nth lawB 16)).drop 11) env) Q E s') :
    wpAny (model prog w) A (execs ((forB (nth lawB 16)).drop 10) env) Q E s := by
  have hh := hR.hh
  have hE := le.E
  have x10 := le.l_entry
  have x11 := le.l_due
  have y4 := le.c_came
  have g9 := le.g_list
  have lt : ∀ {n m : Nat}, Nat.ble n m = true → n ≤ m := Nat.le_of_ble_eq_true
  have mR : ∀ {p : Addr × Obj}, p ∈ R → p ∈ CL ++ (Io :: R) := fun h => List.mem_append_right _ (.tail _ h)
  obtain ⟨ep, hep⟩ := dictAt hD
  have hcz := mkD_len (val := fun f => (cs.count f : Nat)) cs
  have hlen : cits.toArray.size = cs.length := by rw [List.size_toArray, hcI.length]
  refine execsT fun T hT => wpAny_If (wpAny_isTrue_BoolOp (wpAny_allTrue_Or_cons (wpAny_isTrue_Compare1 (sl4 C F (PE.nR (.loc x10 (by rfl))) (.n (mR hae)) (fun s1 r C1 => evR (a := ad) C1 F (PE.nR (.loc x11 (by rfl))) fun s2 C2 => ne4 (C2.get (.head _)) (C2.get (.tail _ (mR had))) hu (wpAny_truthy_bool ?_)) (by intro _ _; rfl)) (by with_unfolding_all rfl))))
  rw [if_neg (by decide)]
  have C2 := C2.drop
  refine wpAny_allTrue_Or_cons (wpAny_isTrue_Compare1 (callE (nm_list (C2.wd F.W) hE g9 (callW F.W (.t "list") (by rfl) (by rfl) (splC (itemsPE (d := dk) C2 F (PE.titem (its := #[.int e0 (τ 0), .int e1 (τ 1), .int e2 (τ 2), .int e3 (τ 3), .ref dk]) (n := 4) (t := 0) (PE.nR (.loc x10 (by rfl))) (.n (mR hae)) PE.int (by omega) (by omega) (by rfl) (by rfl)) (.n (mR hdk)) hD hds (by rfl) (by rfl) fun s3 v C3 => spl0 ⟨⟨_, _, _, _, _, C3⟩, litems hh C3 (.n (mR hdk)) hep hV (by simp only [sizeLine, cntF]; omega) fun s4 B vl c T1 hP C4 => ?_⟩) (by rfl))))) (by with_unfolding_all rfl))
  clear C C2
  have mT : ∀ {p : Addr × Obj}, p ∈ R → p ∈ (B, listOf vl.toArray c) :: (T1 ++ (CL ++ (Io :: R))) := fun h => .tail _ (List.mem_append_right _ (mR h))
  refine lcE ?_ (by rfl) (by decide +kernel) (dcE (by rfl) (by rfl) (by decide +kernel) (evR (a := ac) C4 F (PE.nR (.cl hC (.c (.ra .l)) y4 (by rfl))) fun s5 C5 => pyI_list C5 (C5.get (mT hac)) fun s6 I o6 hI6 C6 => ?_) (by intro _; rfl)) (by intro _; rfl)
  · exact hclAll [Str.ofString "came"] (by rfl) (List.forall_mem_cons.mpr ⟨y4.some, fun _ h => nomatch h⟩)
  have hne := C6.neHead (mT hac)
  obtain ⟨J, hJ⟩ : ∃ J : Nat → List (Int × Value) → List (Addr × Obj) → Prop, ∀ i acc Nm, J i acc Nm ↔ IV acc (mkD (fun _ => 0) (cs.take i)) ∧ Nm = [] := ⟨_, fun _ _ _ => Iff.rfl⟩
  refine dc_blk C6 F (by rfl) (by decide +kernel) [Str.ofString "f"] (fun Cc cenv g' Bk G hE' => feed_list hh hE' (Bk.loc (by rfl) (by rfl) (by decide)) (G.n _ _ (mT hac)) hne) J ((hJ _ _ _).mpr ⟨.nil, rfl⟩) hI6 ?_ ?_ ?_ ?_
  · rw [hlen]; simp only [sizeLine]; omega
  · intro i acc Nm q
    have h1 := ((hJ _ _ _).mp q).1.length
    have h2 := mkD_len (val := fun _ => 0) (cs.take i)
    rw [List.length_take] at h2
    omega
  · intro Cc cenv g' D i acc k' vsC Nm s7 o E' T T' Bk G F' hi q hB hD' C7 hT hT'
    obtain ⟨hv, rfl⟩ := (hJ _ _ _).mp q
    obtain ⟨v, hvi, rfl⟩ := hB
    rw [hlen] at hi
    obtain ⟨t, hv'⟩ := ints_at (its := cits.toArray) hcI hi
    rw [hv'] at hvi; cases hvi
    have z0 : IsLoc cenv [Str.ofString "f"] (Str.ofString "f") 0 := Bk.loc (by rfl) (by rfl) (by decide)
    refine tests_noD (evI C7 F' (PE.nI (.loc z0 (by rfl))) fun s8 t8 C8 => cInt C8 fun s9 t9 C9 => hT' _ _ _ _ _ ((hJ _ _ _).mpr ⟨?_, rfl⟩) C9)
    rw [mkD_step (val := fun _ => 0) (f := cs.getD i 0) (by rw [List.getD_eq_getElem?_getD, List.getElem?_eq_getElem hi]; rfl)]
    exact hv.st _ _ _
  · intro D acc k' Nm s7 hds2 q hD' C7
    obtain ⟨hv, rfl⟩ := (hJ _ _ _).mp q
    rw [List.take_of_length_le (by omega)] at hv
    clear q hJ J C6 hne hI6
    obtain ⟨ep2, hep2⟩ := dictAt hD'
    have hcz2 := mkD_len (val := fun _ => 0) cs
    have ecnt : cntF cs = (mkD (fun _ => 0) cs).map fun p => (p.1, ((cs.count p.1 : Nat) : Int)) := mkD_map
    refine pyI_dict C7 (.n (.head _)) hep2 hds2 fun s8 I2 o8 hI8 C8 => ?_
    obtain ⟨J, hJ⟩ : ∃ J : Nat → Array Value → List (Addr × Obj) → Prop, ∀ i acc Nm, J i acc Nm ↔ ∃ kits : List Value, acc = kits.toArray ∧ PairsIn Nm kits ((cntF cs).take i) := ⟨_, fun _ _ _ => Iff.rfl⟩
    have hne2 := C8.neHead (.head _)
    have hak : acc.length = (cntF cs).length := by rw [hv.length, ecnt, List.length_map]
    refine lc_blk C8 F (by rfl) (by decide +kernel) [Str.ofString "f"] (fun Cc cenv g' Bk G hE' => feed_keys hh hE' (Bk.loc (by rfl) (by rfl) (by decide)) (G.n _ _ (.head _)) hep2 hne2) J ((hJ _ _ _).mpr ⟨[], rfl, rfl, fun i p hp => by simp at hp⟩) hI8 ?_ ?_ ?_ ?_
    · rw [hv.length]; simp only [sizeLine]; omega
    · intro i acc Nm q
      obtain ⟨kits, rfl, hk⟩ := (hJ _ _ _).mp q
      have := hk.1
      rw [List.length_take] at this
      simp only [List.size_toArray]; omega
    · intro Cc cenv g' D2 i acc2 k2 vsC Nm s9 o E' T T' Bk G F' hi q hB C9 hT hT'
      obtain ⟨kits, rfl, hk⟩ := (hJ _ _ _).mp q
      obtain ⟨v, ⟨f, y, hfi, hfv⟩, rfl⟩ := hB
      obtain ⟨tf, rfl⟩ := intKey hfv
      have z0 : IsLoc cenv [Str.ofString "f"] (Str.ofString "f") 0 := Bk.loc (by rfl) (by rfl) (by decide)
      have hg : ∀ p ∈ CL, g'.get? p.1 = some p.2 := fun p hp => G.n _ _ (.tail _ (.tail _ (List.mem_append_right _ (List.mem_append_left _ hp))))
      have hac' := G.n _ _ (.tail _ (mT hac))
      refine tests_no (tup2 (by rfl) (evI (n := f) C9 F' (PE.nI (.loc z0 (by rfl))) fun s10 t10 C10 => cntE C10 F' (PE.nR (.blk Bk (by rfl) y4 hC hg (by rfl))) (PE.nI (.loc z0 (by rfl))) (.g hac') hcI (by rfl) (by rfl) (by rfl) fun s11 t11 C11 => ⟨_, _, C11, fun s12 t12 C12 => ?_⟩))
      have C13 := C12.perm (N' := (I2, o) :: (D2, listOf kits.toArray k2) :: (t12, tupOf #[.int f t10, .int ((cs.count f : Nat) : Int) t11]) :: Nm) (List.Perm.trans (.swap _ _ _) ((List.Perm.swap _ _ _).cons _))
      refine hT' _ _ _ ((hJ _ _ _).mpr ⟨kits ++ [.ref t12], by simp, ?_⟩) C13
      have e : (cntF cs)[i]? = some (f, ((cs.count f : Nat) : Int)) := by
        obtain ⟨y', ty, _, e2⟩ := hv.at hfi
        rw [ecnt, List.getElem?_map, e2]; rfl
      rw [List.take_add_one (l := cntF cs) (i := i), e]
      exact hk.snoc (p := (f, ((cs.count f : Nat) : Int))) (fun _ h => .tail _ h) (.head _)
    · intro D2 acc2 k2 Nm s9 q C9
      obtain ⟨kits, rfl, hk⟩ := (hJ _ _ _).mp q
      rw [hak, List.take_length] at hk
      refine nePairs (xs := vl) (ys := kits) (ks := cntF cs) (C9.get (.tail _ (List.mem_append_right _ (.tail _ (.head _))))) (C9.get (.head _)) ?_ ?_ hu (wpAny_truthy_bool ?_)
      · exact hP.at_ fun a o h => C9.get (.tail _ (List.mem_append_right _ (.tail _ (.tail _ (List.mem_append_left _ h)))))
      · exact hk.at_ fun a o h => C9.get (.tail _ (List.mem_append_left _ h))
      · rw [if_neg (by decide)]
        refine wpAny_allTrue_Or_nil (nextP (hT.nx _ (k _ (C9.sub ?_))))
        exact .cons _ (.trans (.cons _ (.cons _ (List.sublist_append_right T1 _))) (List.sublist_append_right Nm _))
/-! ## FlawL -/
theorem getI_tabF {f : Int → Int} {ps : List Int} {p : Int} (h : p ∈ ps) : getI (tabF f ps) p = some (f p) := by
  induction ps with
  | nil => cases h
  | cons q ps ih =>
    unfold getI tabF at *
    rw [List.map_cons, List.find?_cons]
    by_cases e : q = p
    · subst e; simp
    · simp only [e, decide_false]
      exact ih ((List.mem_cons.mp h).resolve_left fun q' => e q'.symm)
section
variable {w : World} {mg mb : Str → Option Value} {prog : Program} {A : Around} {E : Value → Shared → Prop} {g : Heap} {s0 s s' : Shared} {L : Addr} {ns : List Str} {vs : List (Option Value)} {N : List (Addr × Obj)} {env : Env}
/-- d[e] -/
theorem dgetE {x : Str} {px p : Pos} {e : Expr} {d : Addr} {kd : Obj} {kvs : List (Int × Value)} {ms : List (Int × Int)} {k v : Int} {Q : Value → Shared → Prop} (C : Cx g s0 L ns vs N s) (F : Fm w mg mb g env L) (ho : PE (FN env g ns vs N) (Kn g N) (.Name x px) (.ref d)) (he : PE (FN env g ns vs N) (Kn g N) e (.int k)) (hd : Kn g N d kd) (hD : kd.IsDictOf (intKind prog w) kvs) (hV : IV kvs ms) (hg : getI ms k = some v) (hns : noSlice e = true)
    (h : ∀ s' t, Cx g s0 L ns vs N s' → Q (.int v t) s') : wpAny (model prog w) A (eval (.Subscript (.Name x px) e p) env) Q E s := by
  refine PyProof.Rows.Subscript_ (evR C F ho fun s1 C1 => evI C1 F he fun s2 t2 C2 => ?_)
  have hm := dictOf hD (hd.get C2)
  rcases hV.val k with ⟨_, e2⟩ | ⟨v', t', e1, e2⟩
  · rw [hg] at e2; cases e2
  · rw [hg] at e2; cases e2
    exact subscriptTail_ops hm.typeIs PySem.F.slot_dict_getitem.lookup (wpAny_getItem_of (intKind_is prog w k t2) hm.mapOf e1 (h _ _ (C2.toks _))) (noSlice_sub hns _ _) (fun _ => rfl)
end

theorem lawB8 {w : World} {mg mb : Str → Option Value} {prog : Program} {A : Around} {E : Value → Shared → Prop} {g : Heap} {s0 s : Shared} {L : Addr} {env : Env} {Q : Flow → Shared → Prop} {CL R : List (Addr × Obj)} {Io : Addr × Obj} {as ap ds x dx an at' : Addr} {tu ma si b n nt : Int} {σ : Nat → Tok} {t1 t2 t3 : Tok} {ca fi pa v0 v1 v2 v3 v4 v5 v6 v7 v8 v9 v10 v11 v13 v14 v15 v16 v17 v18 v19 v20 v21 : Option Value}
    {pits : List Value} {kp m : Nat} {ps cs : List Int} {kds : Obj} {kvss : List (Int × Value)} {fo : Int → Int} {l : List Nat} {es : List DictEntry} {its : Array Value}
    (F : Fm w mg mb g env L) (le : LE env L) (hR : Rm A 5) (hz : ps.length ≤ 6) (hnd : ps.Nodup) (hp : ∀ p ∈ ps, 1 ≤ p ∧ p ≤ 6) (hlz : l.length ≤ 100)
    (hap : (ap, listOf pits.toArray kp) ∈ R) (hpI : IntsAre pits ps) (hds : (ds, kds) ∈ R) (hD : kds.IsDictOf (intKind prog w) kvss) (hV : IV kvss (tabF fo ps))
    (hx : (x, instObj 174 dx) ∈ R) (hdx : (dx, PySem.W.dictOf es m) ∈ R) (hw : WsI l cs b n nt) (hwI : IntsAre its.toList cs) (h2 : getL "nt" es = some (some (.int nt t2))) (h3 : getL "norm" es = some (some (.ref an))) (h4 : getL "indent_level" es = some none) (han : (an, tupOf #[.ref at', .int b t3]) ∈ R) (hat : (at', tupOf its) ∈ R)
    (hC : CellsL (lawCs L) (cvM tu ma si σ as (some (.ref x)) fi (some (.ref ds)) pa ca) CL)
    (C : Cx g s0 L lawNs [v0, v1, v2, v3, v4, v5, v6, v7, v8, v9, v10, v11, some (.ref ap), v13, v14, v15, v16, v17, v18, v19, v20, v21] (CL ++ (Io :: R)) s)
    (k : ∀ s' CL' ds' kds' kvss', kds'.IsDictOf (intKind prog w) kvss' → IV kvss' (tabF (fun p => fo p + ((lvF p l).1 + (lvF p l).2)) ps) → CellsL (lawCs L) (cvM tu ma si σ as (some (.ref x)) fi (some (.ref ds')) pa ca) CL' →
      Cx g s0 L lawNs [v0, v1, v2, v3, v4, v5, v6, v7, v8, v9, v10, v11, some (.ref ap), v13, v14, v15, v16, v17, v18, v19, v20, v21] (CL' ++ (Io :: (ds', kds') :: R)) s' →
      wpAny (model prog w) A (execs ((forB (nth lawB 16)).drop 12) env) Q E s') :
    wpAny (model prog w) A (execs ((forB (nth lawB 16)).drop 11) env) Q E s := by
  have hh := hR.hh
  have hE := le.E
  have x12 := le.l_parts
  have y0 := le.c_white
  have y2 := le.c_sums
  have mR : ∀ {p : Addr × Obj}, p ∈ R → p ∈ CL ++ (Io :: R) := fun h => List.mem_append_right _ (.tail _ h)
  have hlen : pits.toArray.size = ps.length := by rw [List.size_toArray, hpI.length]
  refine asCl (g := g) (s0 := s0) (ns := lawNs) F y2 (dcE ?_ (by rfl) (by decide +kernel) (evR (a := ap) C F (PE.nR (.loc x12 (by rfl))) fun s1 C1 => pyI_list C1 (C1.get (mR hap)) fun s2 I o2 hI2 C2 => ?_) (by intro _; rfl)) (swaps_cell y2.k)
  · exact hclAll [Str.ofString "sums", Str.ofString "white"] (by rfl) (List.forall_mem_cons.mpr ⟨y2.some, List.forall_mem_cons.mpr ⟨y0.some, fun _ h => nomatch h⟩⟩)
  have hne := C2.neHead (mR hap)
  obtain ⟨fn, hfn⟩ : ∃ fn : Int → Int, fn = fun p => fo p + ((lvF p l).1 + (lvF p l).2) := ⟨_, rfl⟩
  rw [← hfn] at k
  obtain ⟨J, hJ⟩ : ∃ J : Nat → List (Int × Value) → List (Addr × Obj) → Prop, ∀ i acc Nm, J i acc Nm ↔ IV acc (tabF fn (ps.take i)) ∧ Nm = [] := ⟨_, fun _ _ _ => Iff.rfl⟩
  refine dc_blk C2 F (by rfl) (by decide +kernel) [Str.ofString "part"] (fun Cc cenv g' Bk G hE' => feed_list hh hE' (Bk.loc (by rfl) (by rfl) (by decide)) (G.n _ _ (mR hap)) hne) J ((hJ _ _ _).mpr ⟨.nil, rfl⟩) hI2 ?_ ?_ ?_ ?_
  · rw [hlen]; simp only [sizeLine]; omega
  · intro i acc Nm q
    have := ((hJ _ _ _).mp q).1.length
    simp only [tabF, List.length_map, List.length_take] at this
    omega
  · intro Cc cenv g' D i acc k' vsC Nm s4 o E' T T' Bk G F' hi q hB hD' C5 hT hT'
    obtain ⟨hv, rfl⟩ := (hJ _ _ _).mp q
    obtain ⟨v, hvi, rfl⟩ := hB
    rw [hlen] at hi
    obtain ⟨t, hv'⟩ := ints_at (its := pits.toArray) hpI hi
    rw [hv'] at hvi; cases hvi
    have hmem : ps.getD i 0 ∈ ps := by rw [List.getD_eq_getElem?_getD, List.getElem?_eq_getElem hi]; exact List.getElem_mem hi
    have hb := hp _ hmem
    have z0 : IsLoc cenv [Str.ofString "part"] (Str.ofString "part") 0 := Bk.loc (by rfl) (by rfl) (by decide)
    have hg : ∀ p ∈ CL, g'.get? p.1 = some p.2 := fun p hp => G.n _ _ (List.mem_append_left _ hp)
    refine tests_noD (evI C5 F' (PE.nI (.loc z0 (by rfl))) fun s5 t5 C6 => wpAny_BinOp (dgetE C6 F' (PE.nR (.blk Bk (by rfl) y2 hC hg (by rfl))) (PE.nI (.loc z0 (by rfl))) (.g (G.n _ _ (mR hds))) hD hV (getI_tabF hmem) (by rfl) fun s6 t6 C7 =>
      methE (f := 143) (pvs := [.int (ps.getD i 0)]) C7 F' (PE.nR (.blk Bk (by rfl) y0 hC hg (by rfl))) (.g (G.n _ _ (mR hx))) (.g (G.n _ _ (mR hdx))) (by kernel_rfl) (by kernel_rfl) (by kernel_rfl) h4 (by kernel_rfl) (.cons (PE.nI (.loc z0 (by rfl))) .nil (by rfl)) (by with_unfolding_all rfl) fun s7 τ7 C8 => cal fun R6 hR6 => ?_))
    refine indent_call (t1 := 0) (C8.wd F'.W) (hR.mono (by decide)) hb.1 (by omega) (C8.fr.keep _ _ (G.n _ _ (mR hx))) (C8.fr.keep _ _ (G.n _ _ (mR hdx))) (by omega) hw hwI h2 h3 (C8.fr.keep _ _ (G.n _ _ (mR han))) (C8.fr.keep _ _ (G.n _ _ (mR hat))) fun s8 t8 u => hR6 _ _ (oAdd (C8.up u) fun s9 t9 C9 => hT' _ _ _ _ _ ((hJ _ _ _).mpr ⟨?_, rfl⟩) C9)
    rw [← tabF_step (f := fn) hnd (p := ps.getD i 0) (by rw [List.getD_eq_getElem?_getD, List.getElem?_eq_getElem hi]; rfl), hfn]
    rw [hfn] at hv
    exact hv.st _ _ _
  · intro D acc k' Nm s4 _ q hD' C5
    obtain ⟨hv, rfl⟩ := (hJ _ _ _).mp q
    rw [List.take_of_length_le (by omega)] at hv
    exact ⟨_, _, _, _, hC, Cx.foldM (T := [(D, _)]) C5, fun s5 CL' hC' C6 => k s5 CL' D k' acc hD' hv hC' (C6.perm (List.Perm.append_left _ (.swap _ _ _)))⟩
/-! ## FlawM -/
def worthF (si p f : Int) : Int := if f < si then f - f.fmod p + p else si
def wtab (si p : Int) (ms : List (Int × Int)) : List (Int × Int) := ms.map fun q => (q.1, q.2 * worthF si p q.1)
theorem wtab_step {si p : Int} {ms : List (Int × Int)} {i : Nat} {q : Int × Int} (nd : (ms.map (·.1)).Nodup) (h : ms[i]? = some q) : stI (wtab si p (ms.take i)) q.1 (q.2 * worthF si p q.1) = wtab si p (ms.take (i + 1)) := by
  have hi := (List.getElem?_eq_some_iff.mp h).1
  rw [stI_new]
  · rw [List.take_add_one (l := ms) (i := i), h]
    simp [wtab]
  · intro q'
    unfold wtab at q'
    rw [List.map_map] at q'
    obtain ⟨y, hy, e⟩ := List.mem_map.mp q'
    have e : y.1 = q.1 := e
    obtain ⟨j, hj, e2⟩ := List.getElem_of_mem hy
    rw [List.length_take] at hj
    rw [List.getElem_take] at e2
    have e3 : ms[i] = q := by
      have := List.getElem?_eq_getElem hi
      rw [this] at h; exact Option.some.inj h
    have := List.pairwise_iff_getElem.mp nd j i (by rw [List.length_map]; omega) (by rw [List.length_map]; exact hi) (by omega)
    rw [List.getElem_map, List.getElem_map, e2, e3] at this
    exact this e

theorem lawB9 {w : World} {mg mb : Str → Option Value} {prog : Program} {A : Around} {E : Value → Shared → Prop} {g : Heap} {s0 s : Shared} {L : Addr} {env : Env} {Q : Flow → Shared → Prop} {CL R : List (Addr × Obj)} {Io : Addr × Obj} {as ap ds ae ad dk : Addr} {tu ma si bh e0 e1 e2 e3 : Int} {σ τ υ : Nat → Tok} {tb : Tok} {ca fi wh pa v0 v2 v3 v4 v5 v6 v7 v8 v9 v13 v14 v15 v16 v17 v18 v19 v20 v21 : Option Value}
    {pits : List Value} {kp : Nat} {ps : List Int} {kds kd : Obj} {kvss kvs : List (Int × Value)} {fn : Int → Int} {ms : List (Int × Int)}
    (F : Fm w mg mb g env L) (le : LE env L) (hR : Rm A 5) (hz : ps.length ≤ 6) (hp : ∀ p ∈ ps, 1 ≤ p ∧ p ≤ 6) (hs0 : 1 ≤ si) (hs1 : si ≤ 6) (hb : 0 ≤ bh) (hmz : ms.length ≤ 1000) (hmf : ∀ q ∈ ms, 0 ≤ q.1 ∧ q.1 ≤ 6) (he0 : 0 ≤ e0) (he0' : e0 ≤ 1000)
    (hap : (ap, listOf pits.toArray kp) ∈ R) (hpI : IntsAre pits ps) (hds : (ds, kds) ∈ R) (hD : kds.IsDictOf (intKind prog w) kvss) (hV : IV kvss (tabF fn ps))
    (hae : (ae, tupOf #[.int e0 (τ 0), .int e1 (τ 1), .int e2 (τ 2), .int e3 (τ 3), .ref dk]) ∈ R) (had : (ad, tupOf #[.int e0 (υ 0), .int e1 (υ 1), .int e2 (υ 2), .int e3 (υ 3)]) ∈ R)
    (hdk : (dk, kd) ∈ R) (hDk : kd.IsDictOf (intKind prog w) kvs) (hVk : IV kvs ms) (hdks : (dk == sysModules) = false)
    (hchk : ∀ p ∈ ps, sumV (wtab si p ms) + bh * e0 = fn p)
    (hC : CellsL (lawCs L) (cvM tu ma si σ as wh fi (some (.ref ds)) pa ca) CL)
    (C : Cx g s0 L lawNs [v0, some (.int bh tb), v2, v3, v4, v5, v6, v7, v8, v9, some (.ref ae), some (.ref ad), some (.ref ap), v13, v14, v15, v16, v17, v18, v19, v20, v21] (CL ++ (Io :: R)) s)
    (k : ∀ s' CL' pa' v18', CellsL (lawCs L) (cvM tu ma si σ as wh fi (some (.ref ds)) pa' ca) CL' →
      Cx g s0 L lawNs [v0, some (.int bh tb), v2, v3, v4, v5, v6, v7, v8, v9, some (.ref ae), some (.ref ad), some (.ref ap), v13, v14, v15, v16, v17, v18', v19, v20, v21] (CL' ++ (Io :: R)) s' →
      wpAny (model prog w) A (execs ((forB (nth lawB 16)).drop 13) env) Q E s') :
    wpAny (model prog w) A (execs ((forB (nth lawB 16)).drop 12) env) Q E s := by
  have hh := hR.hh
  have hE := le.E
  have x1 := le.l_behind
  have x10 := le.l_entry
  have x11 := le.l_due
  have x12 := le.l_parts
  have x18 := le.l_worth
  have y2 := le.c_sums
  have y3 := le.c_part
  have y7 := le.c_size
  have lt : ∀ {n m : Nat}, Nat.ble n m = true → n ≤ m := Nat.le_of_ble_eq_true
  have hlen : pits.toArray.size = ps.length := by rw [List.size_toArray, hpI.length]
  obtain ⟨ep, hep⟩ := dictAt hDk
  have nd : (ms.map (·.1)).Nodup := by rw [← hVk.keys]; obtain ⟨_, _, _, _, _, _, q⟩ := hDk; exact q
  obtain ⟨J, hJ⟩ : ∃ J : Nat → List (Option Value) → List (Option Value) → List (Addr × Obj) → Prop, ∀ i vs cv R', J i vs cv R' ↔ ∃ v18' pa', R' = Io :: R ∧ vs = [v0, some (.int bh tb), v2, v3, v4, v5, v6, v7, v8, v9, some (.ref ae), some (.ref ad), some (.ref ap), v13, v14, v15, v16, v17, v18', v19, v20, v21] ∧ cv = cvM tu ma si σ as wh fi (some (.ref ds)) pa' ca := ⟨_, fun _ _ _ _ => Iff.rfl⟩
  refine forS (fun T F' hT => evR (a := ap) C F (PE.nR (.loc x12 (by rfl))) fun s1 C1 => it_listC hh F hC C1 y3 (.n (.tail _ hap)) J (fun i vs cv R' q => ?_) ((hJ _ _ _ _).mpr ⟨_, _, rfl, rfl, rfl⟩) ?_ ?_) (by intro _; rfl)
  · obtain ⟨_, _, rfl, _, _⟩ := (hJ _ _ _ _).mp q
    exact .n (.tail _ hap)
  · clear C C1 hT hC
    intro i v vs cv CL' R' s2 I o E' T' hi hv q hC C hT'
    obtain ⟨v18', pa', rfl, rfl, rfl⟩ := (hJ _ _ _ _).mp q
    rw [hlen] at hi
    obtain ⟨tp, hv'⟩ := ints_at (its := pits.toArray) hpI hi
    rw [hv'] at hv; cases hv
    have hmem : ps.getD i 0 ∈ ps := by rw [List.getD_eq_getElem?_getD, List.getElem?_eq_getElem hi]; exact List.getElem_mem hi
    generalize ps.getD i 0 = p at hmem hC
    have hb' := hp _ hmem
    have hck := hchk _ hmem
    have hC : CellsL (lawCs L) (cvM tu ma si σ as wh fi (some (.ref ds)) (some (.int p tp)) ca) CL' := hC
    have mR : ∀ {q : Addr × Obj}, q ∈ R → q ∈ CL' ++ ((I, o) :: Io :: R) := fun h => List.mem_append_right _ (.tail _ (.tail _ h))
    refine asE C F x18 (callE (nm_count_calls (C.wd F.W) hE le.g_count_calls (callW F.W pl_112 (by rfl) (by rfl) (splC (dcE ?_ (by rfl) (by decide +kernel) (itemsPE (d := dk) C F (PE.titem (its := #[.int e0 (τ 0), .int e1 (τ 1), .int e2 (τ 2), .int e3 (τ 3), .ref dk]) (n := 4) (t := 0) (PE.nR (.loc x10 (by rfl))) (.n (mR hae)) PE.int (by omega) (by omega) (by rfl) (by rfl)) (.n (mR hdk)) hDk hdks (by rfl) (by rfl) fun s3 v C3 => itemsI C3 (.n (mR hdk)) hep fun s4 I2 C4 => ?_) (by intro _; rfl)) (by rfl))))) (by rfl)
    · exact hclAll [Str.ofString "size", Str.ofString "part"] (by rfl) (List.forall_mem_cons.mpr ⟨y7.some, List.forall_mem_cons.mpr ⟨y3.some, fun _ h => nomatch h⟩⟩)
    clear C
    obtain ⟨J2, hJ2⟩ : ∃ J : Nat → List (Int × Value) → List (Addr × Obj) → Prop, ∀ i acc Nm, J i acc Nm ↔ IV acc (wtab si p (ms.take i)) ∧ Nm = [] := ⟨_, fun _ _ _ => Iff.rfl⟩
    refine dc_blk C4 F (by rfl) (by decide +kernel) [Str.ofString "f", Str.ofString "n"] (fun Cc cenv g' Bk G hE' => feed_items hh hE' (Bk.loc (by rfl) (by rfl) (by decide)) (Bk.loc (by rfl) (by rfl) (by decide)) (G.n _ _ (mR hdk)) hep) J2 ((hJ2 _ _ _).mpr ⟨.nil, rfl⟩) ⟨_, _, rfl⟩ ?_ ?_ ?_ ?_
    · rw [hVk.length]; simp only [sizeLine]; omega
    · intro j acc Nm q
      have := ((hJ2 _ _ _).mp q).1.length
      simp only [wtab, List.length_map, List.length_take] at this
      omega
    · intro Cc cenv g' D j acc k' vsC Nm s5 o' E2 T2 T2' Bk G F2 hj q hB hD2 C5 hT2 hT2'
      obtain ⟨hv, rfl⟩ := (hJ2 _ _ _).mp q
      obtain ⟨f, tf, v, hfv, rfl⟩ := hB
      obtain ⟨n, tn, e1, e2⟩ := hVk.at hfv
      cases e1
      have hmq := hmf _ (List.mem_of_getElem? e2)
      have z0 : IsLoc cenv [Str.ofString "f", Str.ofString "n"] (Str.ofString "f") 0 := Bk.loc (by rfl) (by rfl) (by decide)
      have z1 : IsLoc cenv [Str.ofString "f", Str.ofString "n"] (Str.ofString "n") 1 := Bk.loc (by rfl) (by rfl) (by decide)
      have hg : ∀ p ∈ CL', g'.get? p.1 = some p.2 := fun p hp => G.n _ _ (List.mem_append_left _ hp)
      have pn : p ≠ 0 := by omega
      have f0 := Int.fmod_nonneg_of_pos f (b := p) (by omega)
      have f1 := Int.fmod_lt_of_pos f (b := p) (by omega)
      refine tests_noD (evI (n := f) C5 F2 (PE.nI (.loc z0 (by rfl))) fun s6 t6 C6 => evI (n := n * worthF si p f) C6 F2 (PE.mul (y := worthF si p f) (PE.nI (.loc z1 (by rfl))) (PE.ifE (c := decide (f < si)) (PE.nI (.loc z0 (by rfl))) (PE.nI (.blk Bk (by rfl) y7 hC hg (by rfl))) (by rfl) (by with_unfolding_all rfl) (fun hc => ?_) (fun hc => ?_)) ?_) fun s7 t7 C7 => hT2' _ _ _ _ _ ((hJ2 _ _ _).mpr ⟨?_, rfl⟩) C7)
      · have hc' := of_decide_eq_true hc
        rw [worthF, if_pos hc']
        exact PE.add (PE.sub (PE.nI (.loc z0 (by rfl))) (PE.mod (PE.nI (.loc z0 (by rfl))) (PE.nI (.blk Bk (by rfl) y3 hC hg (by rfl))) pn)) (PE.nI (.blk Bk (by rfl) y3 hC hg (by rfl)))
      · have hc' := of_decide_eq_false hc
        rw [worthF, if_neg hc']
        exact PE.nI (.blk Bk (by rfl) y7 hC hg (by rfl))
      · unfold worthF
        generalize f.fmod p = z at f0 f1
        split <;> omega
      · rw [← wtab_step nd e2]
        exact hv.st _ _ _
    · intro D acc k' Nm s5 hDs q hD2 C5
      obtain ⟨hv, rfl⟩ := (hJ2 _ _ _).mp q
      rw [hVk.length, List.take_length] at hv
      refine spl0 ⟨⟨_, _, _, _, _, C5⟩, cal fun R6 hR6 => cc_call (C5.wd F.W) (hR.mono (by decide)) (C5.get (.head _)) hD2 hv hDs fun s6 t6 u => hR6 _ _ ⟨_, _, (C5.up u).drop, lt rfl, fun s7 C7 => ?_⟩⟩
      have C7 : Cx g s0 L lawNs [v0, some (.int bh tb), v2, v3, v4, v5, v6, v7, v8, v9, some (.ref ae), some (.ref ad), some (.ref ap), v13, v14, v15, v16, v17, some (.int (sumV (wtab si p ms)) t6), v19, v20, v21] (CL' ++ ((I, o) :: Io :: R)) s7 := C7
      have hmem2 := hmem
      refine execsT fun T3 hT3 => wpAny_If (wpAny_isTrue_Compare1 (evI (n := sumV (wtab si p ms) + bh * e0) C7 F (PE.add (PE.nI (.loc x18 (by rfl))) (PE.mul (y := e0) (PE.nI (.loc x1 (by rfl))) (PE.titem (t := υ 0) (PE.nR (.loc x11 (by rfl))) (.n (mR had)) PE.int (by omega) (by omega) (by rfl) (by rfl)) (by omega))) fun s8 t8 C8 => dgetE C8 F (PE.nR (.cl hC .l y2 (by rfl))) (PE.nI (.cl hC .l y3 (by rfl))) (.n (mR hds)) hD hV (getI_tabF hmem2) (by rfl) fun s9 t9 C9 => wpCmpI (by rfl) (wpAny_truthy_bool ?_)) (by with_unfolding_all rfl))
      rw [hck, show (fn p != fn p) = false from by simp, if_neg (by decide)]
      exact nextP (hT3.nx _ (nextP (hT'.nx _ _ _ _ _ ((hJ _ _ _ _).mpr ⟨_, _, rfl, rfl, rfl⟩) hC C9)))
  · intro vs cv CL' R' s2 q hC C
    obtain ⟨v18', pa', rfl, rfl, rfl⟩ := (hJ _ _ _ _).mp q
    exact hT.nx _ (k s2 CL' pa' v18' hC C)
/-! ## FlawN -/
/-- a figure as a key sees it -/
def tfF (si : Int) (fs : List Int) (p : Int × Int) : Int := if 0 < p.2 then fs.getD p.1.toNat 0 else si - fs.getD p.1.toNat 0
def TextsAt (tits : List Value) (ys : List Str) : Prop := tits.length = ys.length ∧ ∀ (j : Nat) (y : Str), ys[j]? = some y → ∃ t, tits[j]? = some (.str y t)
theorem TextsAt.snoc {tits : List Value} {ys : List Str} {y : Str} {t : Tok} (h : TextsAt tits ys) : TextsAt (tits ++ [.str y t]) (ys ++ [y]) := by
  refine ⟨by simp [h.1], fun j z hz => ?_⟩
  by_cases hj : j < ys.length
  · rw [List.getElem?_append_left hj] at hz
    obtain ⟨t', e⟩ := h.2 j z hz
    exact ⟨t', by rw [List.getElem?_append_left (by rw [h.1]; exact hj)]; exact e⟩
  · rw [List.getElem?_append_right (by omega)] at hz
    have h0 : j - ys.length = 0 := by
      have := (List.getElem?_eq_some_iff.mp hz).1
      simp at this; omega
    rw [h0] at hz; cases hz
    exact ⟨t, by rw [List.getElem?_append_right (by rw [h.1]; omega), h.1, h0]; rfl⟩
def RowsIn (N : List (Addr × Obj)) (rits : List Value) (fss : List (List Int)) : Prop := rits.length = fss.length ∧ ∀ (j : Nat) (fs : List Int), fss[j]? = some fs → ∃ a its c, rits[j]? = some (.ref a) ∧ (a, listOf its c) ∈ N ∧ IntsAre its.toList fs
theorem RowsIn.mono {N N' : List (Addr × Obj)} {rits : List Value} {fss : List (List Int)} (h : RowsIn N rits fss) (s : Ss N N') : RowsIn N' rits fss :=
  ⟨h.1, fun j fs e => let ⟨a, its, c, e1, e2, e3⟩ := h.2 j fs e; ⟨a, its, c, e1, s _ e2 (fun us q => by cases q), e3⟩⟩
theorem RowsIn.snoc {N : List (Addr × Obj)} {rits : List Value} {fss : List (List Int)} {a : Addr} {its : Array Value} {c : Nat} {fs : List Int} (h : RowsIn N rits fss) (ha : (a, listOf its c) ∈ N) (hI : IntsAre its.toList fs) : RowsIn N (rits ++ [.ref a]) (fss ++ [fs]) := by
  refine ⟨by simp [h.1], fun j z hz => ?_⟩
  by_cases hj : j < fss.length
  · rw [List.getElem?_append_left hj] at hz
    obtain ⟨a', its', c', e, e2⟩ := h.2 j z hz
    exact ⟨a', its', c', by rw [List.getElem?_append_left (by rw [h.1]; exact hj)]; exact e, e2⟩
  · rw [List.getElem?_append_right (by omega)] at hz
    have h0 : j - fss.length = 0 := by
      have := (List.getElem?_eq_some_iff.mp hz).1
      simp at this; omega
    rw [h0] at hz; cases hz
    exact ⟨a, its, c, by rw [List.getElem?_append_right (by rw [h.1]; omega), h.1, h0]; rfl, ha, hI⟩

theorem lawB10 {w : World} {mg mb : Str → Option Value} {prog : Program} {A : Around} {E : Value → Shared → Prop} {g : Heap} {s0 s : Shared} {L : Addr} {env : Env} {Q : Flow → Shared → Prop} {CL R : List (Addr × Obj)} {Io : Addr × Obj} {as ar at' ak af : Addr} {tu ma si bh : Int} {σ : Nat → Tok} {tb : Tok} {ca su wh pa v0 v2 v3 v4 v6 v7 v10 v11 v12 v13 v14 v15 v16 v17 v18 v19 v20 v21 : Option Value}
    {rits tits kits fits : List Value} {kr kt kk cf : Nat} {fs : List Int} {ks : List (Int × Int)}
    (F : Fm w mg mb g env L) (le : LE env L) (hR : Rm A 5) (hs0 : 1 ≤ si) (hs1 : si ≤ 6) (hb0 : 0 ≤ bh) (hb1 : bh ≤ 6) (hrz : rits.length ≤ 100) (htz : tits.length ≤ 100) (hkz : ks.length ≤ 3) (hfz : fs.length ≤ 3) (hf : ∀ f ∈ fs, 0 ≤ f ∧ f ≤ si) (hkb : ∀ p ∈ ks, 0 ≤ p.1 ∧ p.1 < fs.length)
    (har : (ar, listOf rits.toArray kr) ∈ R) (hat : (at', listOf tits.toArray kt) ∈ R) (hak : (ak, listOf kits.toArray kk) ∈ R) (hkP : PairsIn R kits ks) (haf : (af, listOf fits.toArray cf) ∈ R) (hfI : IntsAre fits fs)
    (hC : CellsL (lawCs L) (cvM tu ma si σ as wh (some (.ref af)) su pa ca) CL)
    (C : Cx g s0 L lawNs [v0, some (.int bh tb), v2, v3, v4, some (.ref ak), v6, v7, some (.ref ar), some (.ref at'), v10, v11, v12, v13, v14, v15, v16, v17, v18, v19, v20, v21] (CL ++ (Io :: R)) s)
    (k : ∀ s' ar' at2 ty,
      Cx g s0 L lawNs [v0, some (.int bh tb), v2, v3, v4, some (.ref ak), v6, v7, some (.ref ar'), some (.ref at2), v10, v11, v12, v13, v14, v15, v16, v17, v18, v19, v20, v21] (CL ++ (Io :: (at2, listOf (tits ++ [Value.str (tx (leadL si bh (ks.map (tfF si fs)))) ty]).toArray 0) :: (ar', listOf (rits ++ [Value.ref af]).toArray 0) :: R)) s' →
      Q .next s') :
    wpAny (model prog w) A (execs ((forB (nth lawB 16)).drop 13) env) Q E s := by
  have hh := hR.hh
  have hE := le.E
  have x1 := le.l_behind
  have x5 := le.l_keys
  have x8 := le.l_rows
  have x9 := le.l_texts
  have y1 := le.c_figures
  have y7 := le.c_size
  have lt : ∀ {n m : Nat}, Nat.ble n m = true → n ≤ m := Nat.le_of_ble_eq_true
  have mR : ∀ {q : Addr × Obj}, q ∈ R → q ∈ CL ++ (Io :: R) := fun h => List.mem_append_right _ (.tail _ h)
  have klen : kits.toArray.size = ks.length := by rw [List.size_toArray, hkP.1]
  refine asE C F x8 (wpAny_BinOp (evR (a := ar) C F (PE.nR (.loc x8 (by rfl))) fun s1 C1 => PyProof.Rows.List_ (splC (evR (a := af) C1 F (PE.nR (.cl hC .l y1 (by rfl))) fun s2 C2 => spl0 (newL C2 (lt rfl) fun s3 l1 C3 => addL C3 (C3.get (.tail _ (mR har))) (C3.get (.head _)) ?_ fun s4 ar' C4 => ⟨_, _, C4.swap.drop.fold, lt rfl, fun s5 C5 => ?_⟩)) (by rfl)))) (by rfl)
  · simp only [List.size_toArray, sizeLine, List.length_cons, List.length_nil]; omega
  have C5 := C5.perm (N' := CL ++ (Io :: (ar', listOf (rits ++ [Value.ref af]).toArray 0) :: R)) (List.Perm.append_left _ (.swap _ _ _))
  have C5 : Cx g s0 L lawNs [v0, some (.int bh tb), v2, v3, v4, some (.ref ak), v6, v7, some (.ref ar'), some (.ref at'), v10, v11, v12, v13, v14, v15, v16, v17, v18, v19, v20, v21] (CL ++ (Io :: (ar', listOf (rits ++ [Value.ref af]).toArray 0) :: R)) s5 := C5
  clear C
  have mR2 : ∀ {q : Addr × Obj}, q ∈ R → q ∈ CL ++ (Io :: (ar', listOf (rits ++ [Value.ref af]).toArray 0) :: R) := fun h => List.mem_append_right _ (.tail _ (.tail _ h))
  refine asE C5 F x9 (wpAny_BinOp (evR (a := at') C5 F (PE.nR (.loc x9 (by rfl))) fun s6 C6 => PyProof.Rows.List_ (splC (callE (nm_law_lead (C6.wd F.W) hE le.g_law_lead (callW F.W pl_183 (by rfl) (by rfl) (splC (lcE ?_ (by rfl) (by decide +kernel) (evR (a := ak) C6 F (PE.nR (.loc x5 (by rfl))) fun s7 C7 => pyI_list C7 (C7.get (mR2 hak)) fun s8 I o8 hI8 C8 => ?_) (by intro _; rfl)) (by rfl))))) (by rfl)))) (by rfl)
  · exact hclAll [Str.ofString "figures", Str.ofString "size"] (by rfl) (List.forall_mem_cons.mpr ⟨y1.some, List.forall_mem_cons.mpr ⟨y7.some, fun _ h => nomatch h⟩⟩)
  have hne := C8.neHead (mR2 hak)
  obtain ⟨J, hJ⟩ : ∃ J : Nat → Array Value → List (Addr × Obj) → Prop, ∀ i acc Nm, J i acc Nm ↔ ∃ vs' : List Value, acc = vs'.toArray ∧ IntsAre vs' ((ks.take i).map (tfF si fs)) ∧ Nm = [] := ⟨_, fun _ _ _ => Iff.rfl⟩
  refine lc_blk C8 F (by rfl) (by decide +kernel) [Str.ofString "k", Str.ofString "way"] (fun Cc cenv g' Bk G hE' => feed_pairs (Rp := fun i a b => ∃ p tk td, ks[i]? = some p ∧ a = .int p.1 tk ∧ b = .int p.2 td) hh hE' (Bk.loc (by rfl) (by rfl) (by decide)) (Bk.loc (by rfl) (by rfl) (by decide)) (G.n _ _ (mR2 hak)) hne (fun i v hv => ?_)) J ((hJ _ _ _).mpr ⟨[], rfl, .nil, rfl⟩) hI8 ?_ ?_ ?_ ?_
  · have hi : i < ks.length := by rw [← klen]; exact (Array.getElem?_eq_some_iff.mp hv).1
    obtain ⟨t, tk, td, e1, e2⟩ := hkP.2 i ks[i] (List.getElem?_eq_getElem hi)
    have hv2 : kits[i]? = some v := by simpa using hv
    rw [e1] at hv2; cases hv2
    exact ⟨t, _, _, rfl, G.n _ _ (mR2 e2), ks[i], tk, td, List.getElem?_eq_getElem hi, rfl, rfl⟩
  · rw [klen]; simp only [sizeLine]; omega
  · intro i acc Nm q
    obtain ⟨vs', rfl, hv, _⟩ := (hJ _ _ _).mp q
    have := hv.length
    simp only [List.length_map, List.length_take] at this
    simp only [List.size_toArray]; omega
  · intro Cc cenv g' D i acc k' vsC Nm s9 o E' T T' Bk G F' hi q hB C9 hT hT'
    obtain ⟨vs', rfl, hv, rfl⟩ := (hJ _ _ _).mp q
    obtain ⟨_, _, ⟨p, tk, td, hp, rfl, rfl⟩, rfl⟩ := hB
    have hpb := hkb _ (List.mem_of_getElem? hp)
    have z0 : IsLoc cenv [Str.ofString "k", Str.ofString "way"] (Str.ofString "k") 0 := Bk.loc (by rfl) (by rfl) (by decide)
    have z1 : IsLoc cenv [Str.ofString "k", Str.ofString "way"] (Str.ofString "way") 1 := Bk.loc (by rfl) (by rfl) (by decide)
    have hg : ∀ p ∈ CL, g'.get? p.1 = some p.2 := fun p hp => G.n _ _ (List.mem_append_left _ hp)
    obtain ⟨tf, hf'⟩ := ints_at (its := fits.toArray) hfI (i := p.1.toNat) (by omega)
    have itk : ∀ {N : List (Addr × Obj)} {px p1 : Pos} {pk : Pos}, PE (FN cenv g' [Str.ofString "k", Str.ofString "way"] [some (.int p.1 tk), some (.int p.2 td)] N) (Kn g' N) (.Subscript (.Name (Str.ofString "figures") px) (.Name (Str.ofString "k") pk) p1) (.int (fs.getD p.1.toNat 0)) := fun {N px p1 pk} =>
      PE.itI (l := af) (its := fits.toArray) (k := cf) (n := p.1) (PE.nR (.blk Bk (by rfl) y1 hC hg (by rfl))) (.g (G.n _ _ (mR2 haf))) (PE.nI (.loc z0 (by rfl))) hpb.1 (by omega) ⟨_, hf'⟩ (by rfl)
    refine tests_no (evI (n := tfF si fs p) C9 F' (PE.ifE (c := decide (0 < p.2)) (PE.nI (.loc z1 (by rfl))) PE.int (by rfl) (by with_unfolding_all rfl) (fun hc => ?_) (fun hc => ?_)) fun s10 t10 C10 => hT' _ _ _ ((hJ _ _ _).mpr ⟨vs' ++ [.int (tfF si fs p) t10], by simp, ?_, rfl⟩) C10)
    · rw [tfF, if_pos (of_decide_eq_true hc)]
      exact itk
    · rw [tfF, if_neg (of_decide_eq_false hc)]
      exact PE.sub (PE.nI (.blk Bk (by rfl) y7 hC hg (by rfl))) itk
    · rw [List.take_add_one (l := ks) (i := i), hp, List.map_append]
      exact ints_snoc hv _ _
  · intro D acc k' Nm s9 q C9
    obtain ⟨vs', rfl, hv, rfl⟩ := (hJ _ _ _).mp q
    rw [klen, List.take_length] at hv
    have hv2 : (ks.map (tfF si fs)).length ≤ 3 := by rw [List.length_map]; exact hkz
    have hv3 : ∀ f ∈ ks.map (tfF si fs), 0 ≤ f ∧ f ≤ si := by
      intro f h
      obtain ⟨p, hp, rfl⟩ := List.mem_map.mp h
      have hpb := hkb _ hp
      have hm : fs.getD p.1.toNat 0 ∈ fs := by rw [List.getD_eq_getElem?_getD, List.getElem?_eq_getElem (by omega)]; exact List.getElem_mem (by omega)
      have := hf _ hm
      unfold tfF; split <;> omega
    refine splC (evI (n := si) C9 F (PE.nI (.cl hC (.c .l) y7 (by rfl))) fun s10 t10 C10 => splC (evI (n := bh) C10 F (PE.nI (.loc x1 (by rfl))) fun s11 t11 C11 => spl0 ⟨⟨_, _, _, _, _, C11⟩, cal fun R6 hR6 => lead_call (C11.wd F.W) (hR.mono (by decide)) hs0 hs1 hb0 hb1 (C11.get (.head _)) hv hv2 hv3 fun s12 ty u => hR6 _ _ (spl0 (newL (C11.up u) (lt rfl) fun s13 l2 C13 => addL C13 (C13.get (.tail _ (.tail _ (mR2 hat)))) (C13.get (.head _)) ?_ fun s14 at2 C14 => ⟨_, _, (C14.sub (N' := (at2, _) :: (CL ++ (Io :: (ar', listOf (rits ++ [Value.ref af]).toArray 0) :: R))) (.cons₂ _ (.cons _ (.cons _ (List.Sublist.refl _))))).fold, lt rfl, fun s15 C15 => ?_⟩))⟩) (by rfl)) (by rfl)
    · simp only [List.size_toArray, sizeLine, List.length_cons, List.length_nil]; omega
    · exact nextP (k s15 ar' at2 ty (C15.perm (List.Perm.append_left _ (.swap _ _ _))))
/-! ## FlawO -/
def figF (si ma x : Int) : List Int := (dg (si + 1) ma.toNat x).2
def textF (si ma bh : Int) (ks : List (Int × Int)) (x : Int) : Str := tx (leadL si bh (ks.map (tfF si (figF si ma x))))
def cameF (si ma : Int) (xs : List Int) : List Int := (xs.map (figF si ma)).flatten
def colF (si ma bh p x : Int) : Int := (lvF p (leadL si bh (figF si ma x))).1 + (lvF p (leadL si bh (figF si ma x))).2
def sumsF (si ma bh : Int) (xs : List Int) (p : Int) : Int := (xs.map (colF si ma bh p)).sum
/-- the plain law, as the main loop asks it -/
structure PO (si ma bh en : Int) (ls ps nums : List Int) : Prop where
  len : 1 ≤ ls.length ∧ ls.length ≤ 1000
  w0 : (ls.getD 0 0).natAbs < 2 ^ 63
  col : ∀ x ∈ nums, (placeF si ls (leadL si bh (figF si ma x))).1 = en
  val : ∀ x ∈ nums, (dg (si + 1) ma.toNat x).1 * ls.getD 0 0 + (placeF si ls (leadL si bh (figF si ma x))).2 = x
  chk : ∀ i, i ≤ nums.length → ∀ p ∈ ps, sumV (wtab si p (cntF (cameF si ma (nums.take i)))) + bh * i = sumsF si ma bh (nums.take i) p
  add : ∀ a b, addF (cntF a) (cntF b) = cntF (a ++ b)
  tab : ∀ l : List Nat, (∀ c ∈ l, c = 32 ∨ c = 9) → Txt.count (tx l) (Str.ofString "\t") = (l.count 9 : Nat)
/-- what the loop does not change -/
structure FX (aw ak an ap : Addr) (wits kits nits pits : List Value) (kk kp : Nat) (ks : List (Int × Int)) (R : List (Addr × Obj)) : Prop where
  w : (aw, listOf wits.toArray 0) ∈ R
  k : (ak, listOf kits.toArray kk) ∈ R
  kP : PairsIn R kits ks
  n : (an, listOf nits.toArray 0) ∈ R
  p : (ap, listOf pits.toArray kp) ∈ R
structure MD where
  ar : Addr
  at' : Addr
  ac : Addr
  ae : Addr
  dk : Addr
  ad : Addr
  ds : Addr
  rits : List Value
  tits : List Value
  cits : List Value
  kr : Nat
  kt : Nat
  kc : Nat
  kd : Obj
  kds : Obj
  kvs : List (Int × Value)
  kvss : List (Int × Value)
  e1 : Int
  e2 : Int
  e3 : Int
  τ : Nat → Tok
  υ : Nat → Tok
structure MI (prog : Program) (w : World) (si ma bh : Int) (ks : List (Int × Int)) (ps xs : List Int) (d : MD) (R : List (Addr × Obj)) : Prop where
  har : (d.ar, listOf d.rits.toArray d.kr) ∈ R
  hr : RowsIn R d.rits (xs.map (figF si ma))
  hat : (d.at', listOf d.tits.toArray d.kt) ∈ R
  ht : TextsAt d.tits (xs.map (textF si ma bh ks))
  hac : (d.ac, listOf d.cits.toArray d.kc) ∈ R
  hc : IntsAre d.cits (cameF si ma xs)
  hae : (d.ae, tupOf #[.int xs.length (d.τ 0), .int d.e1 (d.τ 1), .int d.e2 (d.τ 2), .int d.e3 (d.τ 3), .ref d.dk]) ∈ R
  hdk : (d.dk, d.kd) ∈ R
  hD : d.kd.IsDictOf (intKind prog w) d.kvs
  hV : IV d.kvs (cntF (cameF si ma xs))
  hds : (d.dk == sysModules) = false
  had : (d.ad, tupOf #[.int xs.length (d.υ 0), .int d.e1 (d.υ 1), .int d.e2 (d.υ 2), .int d.e3 (d.υ 3)]) ∈ R
  hdsm : (d.ds, d.kds) ∈ R
  hD2 : d.kds.IsDictOf (intKind prog w) d.kvss
  hV2 : IV d.kvss (tabF (sumsF si ma bh xs) ps)
theorem PairsIn.ss {R R' : List (Addr × Obj)} {kits : List Value} {ks : List (Int × Int)} (h : PairsIn R kits ks) (s : Ss R R') : PairsIn R' kits ks :=
  ⟨h.1, fun i q hq => let ⟨t, tk, td, a, b⟩ := h.2 i q hq; ⟨t, tk, td, a, s _ b fun us q => by cases q⟩⟩
theorem FX.mono {aw ak an ap : Addr} {wits kits nits pits : List Value} {kk kp : Nat} {ks : List (Int × Int)} {R R' : List (Addr × Obj)} (h : FX aw ak an ap wits kits nits pits kk kp ks R) (s : Ss R R') : FX aw ak an ap wits kits nits pits kk kp ks R' :=
  ⟨s _ h.w (fun us q => by cases q), s _ h.k (fun us q => by cases q), h.kP.ss s, s _ h.n (fun us q => by cases q), s _ h.p (fun us q => by cases q)⟩
theorem dict_nf {prog : Program} {w : World} {kd : Obj} {kvs : List (Int × Value)} (h : kd.IsDictOf (intKind prog w) kvs) : ∀ us, kd.data ≠ .fields us := by
  obtain ⟨_, _, _, q, _⟩ := h
  intro us e
  rw [q] at e; cases e
theorem Rm.u64 {A : Around} {k : Nat} (R : Rm A k) : A.units + 64 < cLine := by
  have := R.un; have e : cLine = 9900 := rfl; omega
theorem came_len {si ma : Int} : ∀ {xs : List Int}, (cameF si ma xs).length = xs.length * ma.toNat
  | [] => by simp [cameF]
  | x :: xs => by
    have ih := came_len (si := si) (ma := ma) (xs := xs)
    unfold cameF at *
    rw [List.map_cons, List.flatten_cons, List.length_append, ih, figF, dg_len, List.length_cons, Nat.add_mul, Nat.one_mul, Nat.add_comm]
theorem came_snoc {si ma x : Int} {xs : List Int} : cameF si ma (xs ++ [x]) = cameF si ma xs ++ figF si ma x := by simp [cameF]
theorem sums_snoc {si ma bh x p : Int} {xs : List Int} : sumsF si ma bh (xs ++ [x]) p = sumsF si ma bh xs p + colF si ma bh p x := by simp [sumsF]
theorem came_mem {si ma f : Int} {xs : List Int} (hs : 1 ≤ si) (h : f ∈ cameF si ma xs) : 0 ≤ f ∧ f ≤ si := by
  obtain ⟨l, hl, hf⟩ := List.mem_flatten.mp h
  obtain ⟨x, _, rfl⟩ := List.mem_map.mp hl
  have := dg_fig (b := si + 1) (by omega) _ f hf
  omega
theorem cntF_mem {l : List Int} {q : Int × Int} (h : q ∈ cntF l) : q.1 ∈ l := by
  have key : ∀ (val : Int → Int) (l : List Int) (acc : List (Int × Int)), q ∈ l.foldl (fun d f => stI d f (val f)) acc → q.1 ∈ l ∨ q.1 ∈ acc.map (·.1) := by
    intro val l
    induction l with
    | nil => intro acc h; exact .inr (List.mem_map.mpr ⟨q, h, rfl⟩)
    | cons f l ih =>
      intro acc h
      rw [List.foldl_cons] at h
      rcases ih _ h with h | h
      · exact .inl (.tail _ h)
      · unfold stI at h
        split at h
        · rw [List.map_map] at h
          obtain ⟨y, hy, e⟩ := List.mem_map.mp h
          refine .inr (List.mem_map.mpr ⟨y, hy, ?_⟩)
          rw [← e]
          simp only [Function.comp]
          split <;> rfl
        · rw [List.map_append] at h
          rcases List.mem_append.mp h with h | h
          · exact .inr h
          · have : q.1 = f := by simpa using h
            rw [this]; exact .inl (.head _)
  rcases key _ l [] h with h | h
  · exact h
  · simp at h

theorem lawT {w : World} {mg mb : Str → Option Value} {prog : Program} {A : Around} {E : Value → Shared → Prop} {g : Heap} {s0 s : Shared} {L I : Addr} {o : Obj} {env : Env} {T : Flow → Shared → Prop} {CL R : List (Addr × Obj)} {as aw ak an ap : Addr} {tu ma si sp bh en x : Int} {τ σ : Nat → Tok} {tx' : Tok} {wh fi pa kk' q f l a c wo : Option Value} {wits kits nits pits : List Value} {kk kp : Nat} {ks : List (Int × Int)} {ls ps nums xs : List Int} {d : MD}
    (F : Fm w mg mb g env L) (B : Tb mg g) (le : LE env L) (hR : Rm A 30) (hm0 : 1 ≤ ma) (hm1 : ma ≤ 3) (hs0 : 1 ≤ si) (hs1 : si ≤ 6) (hb0 : 0 ≤ bh) (hb1 : bh < si) (hx0 : -10000 ≤ x) (hx1 : x ≤ 10000)
    (hwI : IntsAre wits ls) (hpI : IntsAre pits ps) (hpn : ps.Nodup) (hpb : ∀ p ∈ ps, 1 ≤ p ∧ p ≤ 6) (hpz : ps.length ≤ 6) (hkz : ks.length ≤ 3) (hkb : ∀ p ∈ ks, 0 ≤ p.1 ∧ p.1 < ma)
    (hP : PO si ma bh en ls ps nums) (hxs : xs ++ [x] = nums.take (xs.length + 1)) (hxz : xs.length < nums.length) (hnz : nums.length ≤ 6)
    (hTR : TR R) (hX : FX aw ak an ap wits kits nits pits kk kp ks R) (hM : MI prog w si ma bh ks ps xs d R)
    (hC : CellsL (lawCs L) (cvM tu ma si σ as wh fi (some (.ref d.ds)) pa (some (.ref d.ac))) CL)
    (C : Cx g s0 L lawNs (vsM sp bh en τ aw ak an ap kk' (some (.int x tx')) (some (.ref d.ar)) (some (.ref d.at')) (some (.ref d.ae)) (some (.ref d.ad)) q f l a c wo) ((I, o) :: (CL ++ R)) s)
    (k : ∀ s' d' CL' R' wh fi pa kk' q f l a c wo, TR R' → FX aw ak an ap wits kits nits pits kk kp ks R' → MI prog w si ma bh ks ps (xs ++ [x]) d' R' → CellsL (lawCs L) (cvM tu ma si σ as wh fi (some (.ref d'.ds)) pa (some (.ref d'.ac))) CL' →
      Cx g s0 L lawNs (vsM sp bh en τ aw ak an ap kk' (some (.int x tx')) (some (.ref d'.ar)) (some (.ref d'.at')) (some (.ref d'.ae)) (some (.ref d'.ad)) q f l a c wo) ((I, o) :: (CL' ++ R')) s' → T .next s') :
    wpAny (model prog w) A (execs (forB (nth lawB 16)) env) T E s := by
  have hxm : x ∈ nums := List.mem_of_mem_take (hxs ▸ List.mem_append_right _ (.head _))
  have nf : ∀ {its : Array Value} {n : Nat}, ∀ us, (listOf its n).data ≠ .fields us := fun us h => by cases h
  have nt' : ∀ {its : Array Value}, ∀ us, (tupOf its).data ≠ .fields us := fun us h => by cases h
  have hR5 : Rm A 5 := hR.mono (by decide)
  refine lawB1 (Io := (I, o)) F B le hR hm0 hm1 hs0 hs1 hx0 hx1 hTR hC C.fold fun s3 CL1 R1 af fits cf tq kk1 f1 hTR1 hS1 haf hfI hC1 C3 => ?_
  have hX1 := hX.mono hS1
  have hfz : (figF si ma x).length ≤ 3 := by rw [figF, dg_len]; omega
  have hff : ∀ f ∈ figF si ma x, 0 ≤ f ∧ f ≤ si := fun f h => by have := dg_fig (b := si + 1) (by omega) _ f h; omega
  have hfl : fits.length = (figF si ma x).length := hfI.length
  refine lawB2 (fs := figF si ma x) F le hR5 hs0 hs1 hb0 hb1 hff hfz hP.len haf hfI hX1.w hwI (hP.col _ hxm) (hP.val _ hxm) hP.w0 hC1 C3 fun s4 tl ta c' C4 => ?_
  obtain ⟨l', hl'⟩ : ∃ l', l' = leadL si bh (figF si ma x) := ⟨_, rfl⟩
  have hlz : l'.length ≤ 24 := hl' ▸ lead_len hff hs1 (by omega) hfz
  have hlm : ∀ c ∈ l', c = 32 ∨ c = 9 := hl' ▸ lead_mem
  rw [← hl'] at C4
  refine lawB3 F le hR5 hlm (by omega) hC1 C4 fun s5 CL2 x' dx an' at2 es m cs its b n nt t1 t2 t3 hw hwI' g1 g2 g3 g4 hC2 C5 => ?_
  have hcl := came_len (si := si) (ma := ma) (xs := xs)
  have hcb : xs.length * ma.toNat ≤ 6 * 3 := Nat.mul_le_mul (by omega) (by omega)
  have hcz := mkD_len (val := fun f => ((cameF si ma xs).count f : Nat)) (cameF si ma xs)
  refine lawB4 (fs := figF si ma x) F le hR5 hfz (ms := cntF (cameF si ma xs)) (by unfold cntF; omega) (.tail _ (.tail _ (.tail _ (.tail _ haf)))) hfI (.tail _ (.tail _ (.tail _ (.head _)))) (.tail _ (.tail _ (.head _))) g1 g2
    (.tail _ (.tail _ (.tail _ (.tail _ (hS1 _ hM.hae nt'))))) (.tail _ (.tail _ (.tail _ (.tail _ (hS1 _ hM.hdk (dict_nf hM.hD)))))) hM.hD hM.hV hM.hds hC2 C5 fun s6 p d1 kd1 kvs1 υ1 hds1 hD1 hV1 C6 => ?_
  rw [hP.add, ← came_snoc] at hV1
  have hcl' : d.cits.length = (cameF si ma xs).length := hM.hc.length
  refine lawB5 (e0 := xs.length) (e1 := d.e1) (e2 := d.e2) (e3 := d.e3) (τ := d.υ) (l := l') F le (by omega) (by omega) (by omega) (.tail _ (.tail _ (.tail _ (.tail _ (.tail _ (.tail _ (hS1 _ hM.had nt'))))))) (.tail _ (.tail _ (.tail _ (.tail _ (.tail _ (.tail _ haf)))))) (.tail _ (.tail _ (.tail _ (.tail _ (.tail _ (.tail _ (hS1 _ hM.hac nf))))))) hC2 C6 fun s7 CL3 a1 p1 υ2 hC3 C7 => ?_
  have q1 : nt + d.e1 = d.e1 + Txt.count (tx l') (Str.ofString "\t") := by rw [hP.tab l' hlm, hw.nt1]; omega
  have q2 : ∀ z : Int, z + d.e2 = d.e2 + z := fun z => Int.add_comm _ _
  have q3 : n + d.e3 = d.e3 + l'.length := by rw [hw.n1]; omega
  rw [q1, q2, q3, Int.add_comm 1] at C7
  obtain ⟨f1', hf1'⟩ : ∃ z, z = d.e1 + Txt.count (tx l') (Str.ofString "\t") := ⟨_, rfl⟩
  obtain ⟨f3', hf3'⟩ : ∃ z, z = d.e3 + (l'.length : Int) := ⟨_, rfl⟩
  obtain ⟨f2', hf2'⟩ : ∃ z, z = d.e2 + (placeF si ls (leadL si bh (figF si ma x))).2 := ⟨_, rfl⟩
  rw [← hf1', ← hf3', hl', ← hf2'] at C7
  have hc1 := ints_app hM.hc hfI
  have hc1 : IntsAre (d.cits ++ fits) (cameF si ma (xs ++ [x])) := by rw [came_snoc]; exact hc1
  have hcl2 := came_len (si := si) (ma := ma) (xs := xs ++ [x])
  have hcb2 : (xs ++ [x]).length * ma.toNat ≤ 6 * 3 := Nat.mul_le_mul (by simp; omega) (by omega)
  refine lawB7 F le hR5 hR.u64 (cs := cameF si ma (xs ++ [x])) (by omega) (.tail _ (.tail _ (.head _))) (.tail _ (.head _)) (.head _) hc1 (.tail _ (.tail _ (.tail _ (.head _)))) hD1 hV1 hds1 hC3 C7 fun s8 C8 => ?_
  have hS3 : ∀ {z1 z2 z3 z4 z5 z6 z7 z8 : Addr × Obj}, Ss R1 (z1 :: z2 :: z3 :: z4 :: z5 :: z6 :: z7 :: z8 :: R1) := Ss.rf.c.c.c.c.c.c.c.c
  refine lawB8 (t1 := 0) F le hR5 hpz hpn hpb (l := l') (by omega) (hS3 _ hX1.p nf) hpI (hS3 _ (hS1 _ hM.hdsm (dict_nf hM.hD2)) (dict_nf hM.hD2)) hM.hD2 hM.hV2 (by k_mem) (by k_mem) hw hwI' g2 g3 g4 (by k_mem) (by k_mem) hC3 C8 fun s9 CL4 ds' kds' kvss' hD4 hV4 hC4 C9 => ?_
  have eV : tabF (fun p => sumsF si ma bh xs p + ((lvF p l').1 + (lvF p l').2)) ps = tabF (sumsF si ma bh (xs ++ [x])) ps := by
    unfold tabF
    apply List.map_congr_left
    intro p _
    rw [sums_snoc, colF, ← hl']
  rw [eV] at hV4
  have hcz2 := mkD_len (val := fun f => ((cameF si ma (xs ++ [x])).count f : Nat)) (cameF si ma (xs ++ [x]))
  have hlen1 : (xs ++ [x]).length = xs.length + 1 := by simp
  refine lawB9 (e0 := (xs.length : Int) + 1) F le hR5 hpz hpb hs0 hs1 hb0 (ms := cntF (cameF si ma (xs ++ [x]))) (by unfold cntF; omega) (fun q hq => by have := came_mem hs0 (cntF_mem hq); omega) (by omega) (by omega) (.tail _ (hS3 _ hX1.p nf)) hpI (.head _) hD4 hV4 (.tail _ (.tail _ (.tail _ (.head _)))) (.tail _ (.tail _ (.head _))) (.tail _ (.tail _ (.tail _ (.tail _ (.head _))))) hD1 hV1 hds1 ?_ hC4 C9 fun s10 CL5 pa' wo' hC5 C10 => ?_
  · intro p hp
    have := hP.chk (xs.length + 1) (by omega) p hp
    rw [← hxs] at this
    simpa using this
  have hS4 : ∀ {z1 z2 z3 z4 z5 z6 z7 z8 z9 : Addr × Obj}, Ss R1 (z1 :: z2 :: z3 :: z4 :: z5 :: z6 :: z7 :: z8 :: z9 :: R1) := Ss.rf.c.c.c.c.c.c.c.c.c
  have hrz : d.rits.length = xs.length := by rw [hM.hr.1, List.length_map]
  have htz : d.tits.length = xs.length := by rw [hM.ht.1, List.length_map]
  refine lawB10 (fs := figF si ma x) F le hR5 hs0 hs1 hb0 (by omega) (by omega) (by omega) hkz hfz hff (fun p hp => by have := hkb p hp; rw [figF, dg_len]; omega) (hS4 _ (hS1 _ hM.har nf) nf) (hS4 _ (hS1 _ hM.hat nf) nf) (hS4 _ hX1.k nf) (hX1.kP.ss hS4) (hS4 _ haf nf) hfI hC5 C10 fun s11 ar' at3 ty C11 => ?_
  have hS5 : ∀ {z1 z2 z3 z4 z5 z6 z7 z8 z9 z10 z11 : Addr × Obj}, Ss R1 (z1 :: z2 :: z3 :: z4 :: z5 :: z6 :: z7 :: z8 :: z9 :: z10 :: z11 :: R1) := Ss.rf.c.c.c.c.c.c.c.c.c.c.c
  refine k s11 ⟨ar', at3, a1, p, d1, p1, ds', d.rits ++ [.ref af], d.tits ++ [.str (tx (leadL si bh (ks.map (tfF si (figF si ma x))))) ty], d.cits ++ fits, 0, 0, 0, kd1, kds', kvs1, kvss', f1', f2', f3', υ1, υ2⟩ CL5 _ _ _ _ _ _ _ _ _ _ _
    (TR.app (T := [_, _, _, _, _, _, _, _, _, _, _]) hTR1) (hX1.mono hS5) ⟨by k_mem, ?_, by k_mem, ?_, by k_mem, hc1, ?_, by k_mem, hD1, hV1, hds1, ?_, by k_mem, hD4, hV4⟩ hC5 (C11.perm List.perm_middle)
  · rw [List.map_append]
    exact ((hM.hr.mono hS1).mono hS5).snoc (hS5 _ haf nf) hfI
  · rw [List.map_append]
    exact hM.ht.snoc
  · rw [show (((xs ++ [x]).length : Nat) : Int) = (xs.length : Int) + 1 from by simp]
    k_mem
  · rw [show (((xs ++ [x]).length : Nat) : Int) = (xs.length : Int) + 1 from by simp]
    k_mem
/-! ## Pa -/
/-! tables of counts -/
def ins (ks : List Int) (k : Int) : List Int := if k ∈ ks then ks else ks ++ [k]
def tb (ks : List Int) (v : Int → Int) : List (Int × Int) := ks.map fun k => (k, v k)
theorem mem_ins {ks : List Int} {k j : Int} : j ∈ ins ks k ↔ j ∈ ks ∨ j = k := by
  unfold ins
  split
  · exact ⟨.inl, fun h => h.elim id fun e => e ▸ ‹_›⟩
  · simp
theorem nodup_ins {ks : List Int} {k : Int} (h : ks.Nodup) : (ins ks k).Nodup := by
  unfold ins
  split
  · exact h
  · rw [List.nodup_append]
    refine ⟨h, by simp, fun a ha b hb e => ?_⟩
    have : b = k := by simpa using hb
    subst this; subst e; contradiction
theorem mem_foldl_ins {l : List Int} : ∀ {ks : List Int} {j : Int}, j ∈ l.foldl ins ks ↔ j ∈ ks ∨ j ∈ l := by
  induction l with
  | nil => intro ks j; simp
  | cons k l ih =>
    intro ks j
    rw [List.foldl_cons, ih, mem_ins, List.mem_cons, or_assoc]
theorem nodup_foldl_ins {l : List Int} : ∀ {ks : List Int}, ks.Nodup → (l.foldl ins ks).Nodup := by
  induction l with
  | nil => intro ks h; exact h
  | cons k l ih => intro ks h; rw [List.foldl_cons]; exact ih (nodup_ins h)
theorem ins_same {ks : List Int} {k : Int} (h : k ∈ ks) : ins ks k = ks := by unfold ins; rw [if_pos h]
theorem foldl_ins_ins {a : List Int} (X : List Int) (k : Int) : (ins X k).foldl ins a = ins (X.foldl ins a) k := by
  by_cases h : k ∈ X
  · rw [ins_same h, ins_same (mem_foldl_ins.mpr (.inr h))]
  · conv => lhs; unfold ins
    rw [if_neg h, List.foldl_append]; rfl
theorem foldl_ins_foldl {a : List Int} : ∀ (b c : List Int), (b.foldl ins c).foldl ins a = b.foldl ins (c.foldl ins a)
  | [], c => rfl
  | k :: b, c => by rw [List.foldl_cons, foldl_ins_foldl b, foldl_ins_ins, List.foldl_cons]
theorem stI_tb {ks : List Int} {v : Int → Int} {k x : Int} : stI (tb ks v) k x = tb (ins ks k) (fun j => if j = k then x else v j) := by
  unfold stI tb ins
  have e : ((ks.map fun k => (k, v k)).any (fun kv => kv.1 = k)) = decide (k ∈ ks) := by
    rw [List.any_map]
    by_cases h : k ∈ ks
    · rw [decide_eq_true h, List.any_eq_true]
      exact ⟨k, h, by simp⟩
    · rw [decide_eq_false h, List.any_eq_false]
      intro j hj
      simp only [Function.comp, decide_eq_true_eq]
      intro e; subst e; exact h hj
  rw [e]
  by_cases h : k ∈ ks
  · rw [if_pos (by simpa using h), if_pos h, List.map_map]
    apply List.map_congr_left
    intro j _
    simp only [Function.comp]
    split <;> rfl
  · rw [if_neg (by simpa using h), if_neg h, List.map_append]
    congr 1
    · apply List.map_congr_left
      intro j hj
      have : j ≠ k := fun e => h (e ▸ hj)
      simp [this]
    · simp
theorem getI_tb {ks : List Int} {v : Int → Int} {k : Int} : getI (tb ks v) k = if k ∈ ks then some (v k) else none := by
  unfold getI tb
  induction ks with
  | nil => simp
  | cons j ks ih =>
    rw [List.map_cons, List.find?_cons]
    by_cases h : j = k
    · subst h; simp
    · simp only [h, decide_false, List.mem_cons]
      rw [ih]
      have : ¬ k = j := fun e => h e.symm
      simp [this]
theorem addI_tb {ks : List Int} {v : Int → Int} {k x : Int} (h : ∀ j, j ∉ ks → v j = 0) : addI (tb ks v) k x = tb (ins ks k) (fun j => v j + if j = k then x else 0) := by
  unfold addI
  rw [getI_tb, stI_tb]
  congr 1
  funext j
  by_cases e : j = k
  · subst e
    rw [if_pos rfl, if_pos rfl]
    split
    · rfl
    · rw [h _ ‹_›]; rfl
  · rw [if_neg e, if_neg e]; omega
theorem addF_tb {u : Int → Int} : ∀ (ds ks : List Int) (v : Int → Int), ds.Nodup → (∀ j, j ∉ ks → v j = 0) → addF (tb ks v) (tb ds u) = tb (ds.foldl ins ks) (fun j => v j + if j ∈ ds then u j else 0)
  | [], ks, v, _, _ => by
    show tb ks v = tb ks _
    congr 1; funext j; simp
  | d :: ds, ks, v, nd, h => by
    have nd' := List.nodup_cons.mp nd
    have ih := addF_tb (u := u) ds (ins ks d) (fun j => v j + if j = d then u d else 0) nd'.2 (fun j hj => by
      rw [mem_ins] at hj
      have h1 : j ∉ ks := fun q => hj (.inl q)
      have h2 : j ≠ d := fun q => hj (.inr q)
      show v j + (if j = d then u d else 0) = 0
      rw [h j h1, if_neg h2]; rfl)
    show (tb ds u).foldl (fun d p => addI d p.1 p.2) (addI (tb ks v) d (u d)) = _
    rw [addI_tb h]
    refine ih.trans ?_
    rw [List.foldl_cons]
    congr 1
    funext j
    by_cases e : j = d
    · subst e
      simp [nd'.1]
    · simp [e]
theorem mkD_tb {val : Int → Int} {l : List Int} : mkD val l = tb (l.foldl ins []) val := by
  have key : ∀ (l ks : List Int), l.foldl (fun d f => stI d f (val f)) (tb ks val) = tb (l.foldl ins ks) val := by
    intro l
    induction l with
    | nil => intro ks; rfl
    | cons f l ih =>
      intro ks
      rw [List.foldl_cons, List.foldl_cons, stI_tb, ← ih]
      congr 2
      funext j
      split
      · rw [‹j = f›]
      · rfl
  exact key l []
theorem cnt_add (a b : List Int) : addF (cntF a) (cntF b) = cntF (a ++ b) := by
  unfold cntF
  rw [mkD_tb, mkD_tb, mkD_tb, addF_tb _ _ _ (nodup_foldl_ins .nil), foldl_ins_foldl, List.foldl_append]
  · congr 1
    funext j
    rw [List.count_append]
    by_cases h : j ∈ b
    · rw [if_pos (mem_foldl_ins.mpr (.inr h))]; omega
    · rw [if_neg (fun q => by rcases mem_foldl_ins.mp q with q | q; exact absurd q List.not_mem_nil; exact h q), List.count_eq_zero_of_not_mem h]; rfl
  · intro j hj
    have : j ∉ a := fun q => hj (mem_foldl_ins.mpr (.inr q))
    rw [List.count_eq_zero_of_not_mem this]; rfl
theorem sumV_eq (ms : List (Int × Int)) : sumV ms = (ms.map (·.2)).sum := by
  unfold sumV
  have key : ∀ (ms : List (Int × Int)) (z : Int), ms.foldl (fun a p => a + p.2) z = z + (ms.map (·.2)).sum := by
    intro ms
    induction ms with
    | nil => intro z; simp
    | cons p ms ih => intro z; rw [List.foldl_cons, ih, List.map_cons, List.sum_cons]; omega
  rw [key]; omega
theorem sum_pick {g : Int → Int} {f : Int} : ∀ {ds : List Int}, ds.Nodup → f ∈ ds → (ds.map fun k => if f = k then g k else 0).sum = g f
  | d :: ds, nd, h => by
    have nd' := List.nodup_cons.mp nd
    rw [List.map_cons, List.sum_cons]
    by_cases e : f = d
    · subst e
      rw [if_pos rfl]
      have : (ds.map fun k => if f = k then g k else 0) = ds.map fun _ => 0 := by
        apply List.map_congr_left
        intro k hk
        rw [if_neg]
        intro e; subst e; exact nd'.1 hk
      rw [this]
      have z : ∀ l : List Int, (l.map fun _ => (0 : Int)).sum = 0 := by
        intro l; induction l with
        | nil => rfl
        | cons _ _ ih => rw [List.map_cons, List.sum_cons, ih]; rfl
      rw [z]; omega
    · rw [if_neg e, sum_pick nd'.2 ((List.mem_cons.mp h).resolve_left e)]; omega
theorem sum_add {α : Type} (f g : α → Int) : ∀ l : List α, (l.map fun k => f k + g k).sum = (l.map f).sum + (l.map g).sum
  | [] => rfl
  | a :: l => by rw [List.map_cons, List.map_cons, List.map_cons, List.sum_cons, List.sum_cons, List.sum_cons, sum_add f g l]; omega
theorem sum_count {g : Int → Int} {ds : List Int} (nd : ds.Nodup) : ∀ {l : List Int}, (∀ f ∈ l, f ∈ ds) → (ds.map fun k => (l.count k : Int) * g k).sum = (l.map g).sum
  | [], _ => by
    have z : ∀ l : List Int, (l.map fun k => (([] : List Int).count k : Int) * g k).sum = 0 := by
      intro l; induction l with
      | nil => rfl
      | cons a l ih => rw [List.map_cons, List.sum_cons, ih]; simp
    rw [z]; rfl
  | f :: l, h => by
    have e : (ds.map fun k => ((f :: l).count k : Int) * g k) = ds.map fun k => (l.count k : Int) * g k + if f = k then g k else 0 := by
      apply List.map_congr_left
      intro k _
      rw [List.count_cons]
      by_cases q : f = k
      · subst q
        simp only [beq_self_eq_true, if_true, if_pos]
        rw [Int.natCast_add, Int.add_mul]; simp
      · simp [q]
    rw [e, sum_add, sum_count nd (fun f q => h f (.tail _ q)), sum_pick nd (h f (.head _)), List.map_cons, List.sum_cons]; omega
theorem sum_wtab {si p : Int} (l : List Int) : sumV (wtab si p (cntF l)) = (l.map (worthF si p)).sum := by
  rw [sumV_eq]
  unfold wtab cntF
  rw [mkD_tb]
  unfold tb
  rw [List.map_map, List.map_map]
  exact sum_count (g := worthF si p) (nodup_foldl_ins .nil) fun f h => mem_foldl_ins.mpr (.inr h)
/-! ## Pb -/
/-! the ways and the places -/
theorem wstop_at {si m r : Int} (h0 : 0 ≤ r) (h1 : r < si) : wstop si (si * m + r) = si * (m + 1) := by
  unfold wstop
  rw [Int.fmod_eq_emod_of_nonneg _ (by omega : 0 ≤ si), Int.mul_add_emod_self_left, Int.emod_eq_of_lt h0 h1, Int.mul_add, Int.mul_one]
  omega
theorem pow_s (b : Int) (n : Nat) : b ^ (n + 1) = b * b ^ n := by rw [Int.pow_succ, Int.mul_comm]
section
variable {si bh : Int} {M : Nat} {ls : List Int}
theorem ways_end (H : WaysInv si (si * M + bh) ls 0) (hs : 1 ≤ si) (h0 : 0 ≤ bh) (h1 : bh < si) : ∀ k : Nat, (k : Int) ≤ bh → ls.getD (si * M + bh - k).toNat 0 = 1
  | 0, _ => by
    rw [show si * (M : Int) + bh - ((0 : Nat) : Int) = si * M + bh from by simp, List.getD_eq_getElem?_getD, H.last]; rfl
  | k + 1, hk => by
    have hk' : (k : Int) + 1 ≤ bh := by simpa using hk
    have ih := ways_end H hs h0 h1 k (by omega)
    have hM : 0 ≤ si * (M : Int) := Int.mul_nonneg (by omega) (by omega)
    rw [H.step _ (by simp; omega) (by simp; omega)]
    have e : si * (M : Int) + bh - ((k + 1 : Nat) : Int) = si * M + (bh - k - 1) := by simp; omega
    rw [e, wstop_at (by omega) (by omega), if_neg (by rw [Int.mul_add]; omega), show si * (M : Int) + (bh - k - 1) + 1 = si * M + bh - k from by omega, ih]; rfl
theorem ways_row (H : WaysInv si (si * M + bh) ls 0) (hs : 1 ≤ si) (h0 : 0 ≤ bh) (h1 : bh < si) {j : Nat} (hj : j < M) (hv : ls.getD (si * ((M - j : Nat) : Int)).toNat 0 = (si + 1) ^ j) :
    ∀ k : Nat, (k : Int) ≤ si → ls.getD (si * ((M - j : Nat) : Int) - k).toNat 0 = (k + 1) * (si + 1) ^ j
  | 0, _ => by
    rw [show si * ((M - j : Nat) : Int) - ((0 : Nat) : Int) = si * ((M - j : Nat) : Int) from by simp, hv]; simp
  | k + 1, hk => by
    have hk' : (k : Int) + 1 ≤ si := by simpa using hk
    have ih := ways_row H hs h0 h1 hj hv k (by omega)
    obtain ⟨m, hm⟩ : ∃ m : Nat, M - j = m + 1 := ⟨M - j - 1, by omega⟩
    have hmM : si * ((m : Int) + 1) ≤ si * M := Int.mul_le_mul_of_nonneg_left (by omega) (by omega)
    have hm0 : 0 ≤ si * (m : Int) := Int.mul_nonneg (by omega) (by omega)
    have em : si * ((m : Int) + 1) = si * m + si := by rw [Int.mul_add, Int.mul_one]
    rw [hm] at hv ih ⊢
    have e1 : si * ((m + 1 : Nat) : Int) = si * m + si := by rw [Int.natCast_add]; exact em
    rw [e1] at hv ih ⊢
    have e : si * (m : Int) + si - ((k + 1 : Nat) : Int) = si * m + (si - k - 1) := by simp; omega
    rw [H.step _ (by rw [e]; omega) (by rw [e]; omega), e, wstop_at (by omega) (by omega), if_pos (by omega), em, hv, show si * (m : Int) + (si - k - 1) + 1 = si * m + si - k from by omega, ih]
    simp only [Int.natCast_add, Int.add_mul, Int.one_mul, Int.natCast_one]
theorem ways_val (H : WaysInv si (si * M + bh) ls 0) (hs : 1 ≤ si) (h0 : 0 ≤ bh) (h1 : bh < si) : ∀ j : Nat, j ≤ M → ls.getD (si * ((M - j : Nat) : Int)).toNat 0 = (si + 1) ^ j
  | 0, _ => by
    have := ways_end H hs h0 h1 bh.toNat (by omega)
    rw [show si * (M : Int) + bh - (bh.toNat : Int) = si * M from by omega] at this
    simpa using this
  | j + 1, hj => by
    have ih := ways_val H hs h0 h1 j (by omega)
    have := ways_row H hs h0 h1 (by omega : j < M) ih si.toNat (by omega)
    obtain ⟨m, hm⟩ : ∃ m : Nat, M - j = m + 1 := ⟨M - j - 1, by omega⟩
    have hm' : M - (j + 1) = m := by omega
    rw [hm] at this
    rw [hm', pow_s]
    rw [show si * ((m + 1 : Nat) : Int) - (si.toNat : Int) = si * m from by rw [Int.natCast_add, Int.mul_add]; simp; omega, show ((si.toNat : Nat) : Int) = si from by omega] at this
    exact this
/-- what the figures are worth -/
def dv (b : Int) : List Int → Int
  | [] => 0
  | f :: fs => f * b ^ fs.length + dv b fs
theorem place_sp (H : WaysInv si (si * M + bh) ls 0) (hs : 1 ≤ si) (h0 : 0 ≤ bh) (h1 : bh < si) {j m : Nat} (hj : j + m + 1 = M) :
    ∀ (k : Nat) (r a : Int), 0 ≤ r → r + k ≤ si → (List.replicate k 32).foldl (placeStep si ls) (si * m + r, a) = (si * m + r + k, a + k * (si + 1) ^ j)
  | 0, r, a, _, _ => by simp
  | k + 1, r, a, hr, hk => by
    have hk' : r + ((k : Int) + 1) ≤ si := by simpa using hk
    have hM : si * ((m : Int) + 1) ≤ si * M := Int.mul_le_mul_of_nonneg_left (by omega) (by omega)
    have hm0 : 0 ≤ si * ((m : Int) + 1) := Int.mul_nonneg (by omega) (by omega)
    have hv := ways_val H hs h0 h1 j (by omega)
    rw [show M - j = m + 1 from by omega] at hv
    have hl := H.len
    rw [List.replicate_succ, List.foldl_cons]
    have e : placeStep si ls (si * m + r, a) 32 = (si * m + (r + 1), a + (si + 1) ^ j) := by
      unfold placeStep
      rw [if_neg (by decide)]
      show (si * (m : Int) + r + 1, a + (if wstop si (si * m + r) < ls.length then ls.getD (wstop si (si * m + r)).toNat 0 else 0)) = _
      rw [wstop_at hr (by omega), if_pos (by omega), Int.add_assoc]
      rw [show (((m + 1 : Nat)) : Int) = (m : Int) + 1 from by simp] at hv
      rw [hv]
    rw [e, place_sp H hs h0 h1 hj k (r + 1) _ (by omega) (by omega)]
    refine Prod.ext ?_ ?_
    · simp; omega
    · simp only [Int.natCast_add, Int.add_mul]; simp; omega
theorem place_seg (H : WaysInv si (si * M + bh) ls 0) (hs : 1 ≤ si) (h0 : 0 ≤ bh) (h1 : bh < si) {j m : Nat} (hj : j + m + 1 = M) {f a : Int} (hf : 0 ≤ f) (hf1 : f ≤ si) :
    (segL si f).foldl (placeStep si ls) (si * m, a) = (si * ((m + 1 : Nat) : Int), a + f * (si + 1) ^ j) := by
  have e1 : si * ((m + 1 : Nat) : Int) = si * m + si := by rw [Int.natCast_add, Int.mul_add]; simp
  unfold segL
  split
  · have := place_sp H hs h0 h1 hj f.toNat 0 a (by omega) (by omega)
    rw [Int.add_zero, show ((f.toNat : Nat) : Int) = f from by omega] at this
    rw [List.foldl_append, this]
    show placeStep si ls _ 9 = _
    unfold placeStep
    rw [if_pos rfl]
    show (wstop si (si * m + f), _) = _
    rw [wstop_at hf (by omega)]
    rfl
  · have := place_sp H hs h0 h1 hj si.toNat 0 a (by omega) (by omega)
    rw [Int.add_zero, show ((si.toNat : Nat) : Int) = si from by omega] at this
    rw [this, e1, show f = si from by omega]
theorem place_segs (H : WaysInv si (si * M + bh) ls 0) (hs : 1 ≤ si) (h0 : 0 ≤ bh) (h1 : bh < si) : ∀ (fs : List Int) (m : Nat) (a : Int), (∀ f ∈ fs, 0 ≤ f ∧ f ≤ si) → fs.length + m = M →
    (fs.map (segL si)).flatten.foldl (placeStep si ls) (si * m, a) = (si * M, a + dv (si + 1) fs)
  | [], m, a, _, hm => by
    have : m = M := by simpa using hm
    subst this; simp [dv]
  | f :: fs, m, a, hf, hm => by
    have hm' : fs.length + m + 1 = M := by rw [List.length_cons] at hm; omega
    have h := hf f (.head _)
    rw [List.map_cons, List.flatten_cons, List.foldl_append, place_seg H hs h0 h1 hm' h.1 h.2, place_segs H hs h0 h1 fs (m + 1) _ (fun x hx => hf x (.tail _ hx)) (by omega)]
    show _ = (si * (M : Int), a + (f * (si + 1) ^ fs.length + dv (si + 1) fs))
    rw [Int.add_assoc]
theorem place_tail (H : WaysInv si (si * M + bh) ls 0) (hs : 1 ≤ si) (h0 : 0 ≤ bh) (h1 : bh < si) : ∀ (k : Nat) (r a : Int), 0 ≤ r → r + k ≤ bh → (List.replicate k 32).foldl (placeStep si ls) (si * M + r, a) = (si * M + r + k, a)
  | 0, r, a, _, _ => by simp
  | k + 1, r, a, hr, hk => by
    have hk' : r + ((k : Int) + 1) ≤ bh := by simpa using hk
    have hM : 0 ≤ si * (M : Int) := Int.mul_nonneg (by omega) (by omega)
    have hl := H.len
    rw [List.replicate_succ, List.foldl_cons]
    have e : placeStep si ls (si * M + r, a) 32 = (si * M + (r + 1), a) := by
      unfold placeStep
      rw [if_neg (by decide)]
      show (si * (M : Int) + r + 1, a + (if wstop si (si * M + r) < ls.length then ls.getD (wstop si (si * M + r)).toNat 0 else 0)) = _
      rw [wstop_at hr (by omega), if_neg (by rw [Int.mul_add]; omega), Int.add_assoc, Int.add_zero]
    rw [e, place_tail H hs h0 h1 k (r + 1) _ (by omega) (by omega)]
    refine Prod.ext ?_ rfl
    simp; omega
theorem place_lead (H : WaysInv si (si * M + bh) ls 0) (hs : 1 ≤ si) (h0 : 0 ≤ bh) (h1 : bh < si) {fs : List Int} (hf : ∀ f ∈ fs, 0 ≤ f ∧ f ≤ si) (hl : fs.length = M) : placeF si ls (leadL si bh fs) = (si * M + bh, dv (si + 1) fs) := by
  unfold placeF leadL
  have e := place_segs H hs h0 h1 fs 0 0 hf (by omega)
  rw [show si * ((0 : Nat) : Int) = 0 from by simp, Int.zero_add] at e
  have e2 := place_tail H hs h0 h1 bh.toNat 0 (dv (si + 1) fs) (by omega) (by omega)
  rw [Int.add_zero, show ((bh.toNat : Nat) : Int) = bh from by omega] at e2
  rw [List.foldl_append, e, e2]
theorem dg_dv {b x : Int} : ∀ k, (dg b k x).1 * b ^ k + dv b (dg b k x).2 = x
  | 0 => by simp [dg, dv]
  | k + 1 => by
    have ih := dg_dv (b := b) (x := x) k
    show (dg b k x).1 / b * b ^ (k + 1) + ((dg b k x).1 % b * b ^ (dg b k x).2.length + dv b (dg b k x).2) = x
    rw [dg_len, pow_s, ← Int.mul_assoc, ← Int.add_assoc, ← Int.add_mul, Int.mul_comm _ b, Int.mul_ediv_add_emod]
    exact ih
end
/-! the levels -/
theorem lv_sp (p : Int) : ∀ (k : Nat) (q : Int × Int), (List.replicate k 32).foldl (lvStep p) q = (q.1, q.2 + k)
  | 0, q => by simp
  | k + 1, q => by
    rw [List.replicate_succ, List.foldl_cons, show lvStep p q 32 = (q.1, q.2 + 1) from by unfold lvStep; rw [if_neg (by decide)], lv_sp p k]
    refine Prod.ext rfl ?_
    simp; omega
theorem lv_seg {p si f : Int} (hp : 1 ≤ p) (hs : 1 ≤ si) (hd : si.fmod p = 0) (hf : 0 ≤ f) (hf1 : f ≤ si) (q : Int × Int) (hq : q.2.fmod p = 0) (hq0 : 0 ≤ q.2) :
    ((segL si f).foldl (lvStep p) q).1 + ((segL si f).foldl (lvStep p) q).2 = q.1 + q.2 + worthF si p f ∧ ((segL si f).foldl (lvStep p) q).2.fmod p = 0 ∧ 0 ≤ ((segL si f).foldl (lvStep p) q).2 := by
  have ne : ∀ z : Int, z.fmod p = z % p := fun z => Int.fmod_eq_emod_of_nonneg _ (by omega)
  rw [ne] at hd hq
  unfold segL worthF
  by_cases h : f < si
  · rw [if_pos h, if_pos h, List.foldl_append, lv_sp]
    have e : [9].foldl (lvStep p) (q.1, q.2 + (f.toNat : Int)) = (q.1 + p * ((q.2 + f).fdiv p + 1), 0) := by
      show lvStep p _ 9 = _
      unfold lvStep
      rw [if_pos rfl, show ((f.toNat : Nat) : Int) = f from by omega]
    rw [e]
    refine ⟨?_, by simp [Int.zero_fmod], Int.le_refl _⟩
    have e1 := Int.mul_fdiv_add_fmod (q.2 + f) p
    have e2 : (q.2 + f).fmod p = f.fmod p := by
      rw [ne, ne, Int.add_emod, hq, Int.zero_add, Int.emod_emod_of_dvd _ (Int.dvd_refl p)]
    rw [e2] at e1
    show q.1 + p * ((q.2 + f).fdiv p + 1) + 0 = _
    rw [Int.mul_add]; omega
  · rw [if_neg h, if_neg h, lv_sp, show ((si.toNat : Nat) : Int) = si from by omega]
    refine ⟨by show q.1 + (q.2 + si) = _; omega, ?_, by show 0 ≤ q.2 + si; omega⟩
    show (q.2 + si).fmod p = 0
    rw [ne, Int.add_emod, hq, hd]; simp
theorem lv_segs {p si : Int} (hp : 1 ≤ p) (hs : 1 ≤ si) (hd : si.fmod p = 0) : ∀ (fs : List Int), (∀ f ∈ fs, 0 ≤ f ∧ f ≤ si) → ∀ (q : Int × Int), q.2.fmod p = 0 → 0 ≤ q.2 →
    ((fs.map (segL si)).flatten.foldl (lvStep p) q).1 + ((fs.map (segL si)).flatten.foldl (lvStep p) q).2 = q.1 + q.2 + (fs.map (worthF si p)).sum
  | [], _, q, _, _ => by simp
  | f :: fs, hf, q, hq, hq0 => by
    have h := hf f (.head _)
    obtain ⟨a, b, c⟩ := lv_seg hp hs hd h.1 h.2 q hq hq0
    rw [List.map_cons, List.flatten_cons, List.foldl_append, lv_segs hp hs hd fs (fun x hx => hf x (.tail _ hx)) _ b c, a, List.map_cons, List.sum_cons]; omega
theorem col_eq {si ma bh p x : Int} (hp : 1 ≤ p) (hs : 1 ≤ si) (hb : 0 ≤ bh) (hd : si.fmod p = 0) : colF si ma bh p x = ((figF si ma x).map (worthF si p)).sum + bh := by
  have hf : ∀ f ∈ figF si ma x, 0 ≤ f ∧ f ≤ si := fun f h => by have := dg_fig (b := si + 1) (by omega) _ f h; omega
  have h := lv_segs hp hs hd _ hf (0, 0) (by simp [Int.zero_fmod]) (Int.le_refl _)
  unfold colF lvF leadL
  rw [List.foldl_append, lv_sp]
  show _ + (_ + ((bh.toNat : Nat) : Int)) = _
  have : (0, 0).1 + (0, 0).2 = (0 : Int) := rfl
  omega
theorem sums_eq {si ma bh p : Int} (hp : 1 ≤ p) (hs : 1 ≤ si) (hb : 0 ≤ bh) (hd : si.fmod p = 0) : ∀ xs : List Int, sumsF si ma bh xs p = ((cameF si ma xs).map (worthF si p)).sum + bh * xs.length
  | [] => by simp [sumsF, cameF]
  | x :: xs => by
    have ih := sums_eq (ma := ma) hp hs hb hd xs
    have e1 : sumsF si ma bh (x :: xs) p = colF si ma bh p x + sumsF si ma bh xs p := by simp [sumsF]
    have e2 : cameF si ma (x :: xs) = figF si ma x ++ cameF si ma xs := by simp [cameF]
    rw [e1, e2, ih, col_eq hp hs hb hd, List.map_append, List.sum_append, List.length_cons, Int.natCast_add, Int.mul_add]
    simp only [Int.natCast_one, Int.mul_one]
    omega
/-! ## Pc -/
/-! the tabs of a text -/
theorem extract_one (l : List Nat) (i : Nat) : (l.toArray.extract i (i + 1) == (#[9] : Array Nat)) = decide (l[i]? = some 9) := by
  by_cases h : i < l.length
  · have e : l.toArray.extract i (i + 1) = #[l[i]] := by
      apply Array.ext'
      simp [List.take_one, List.head?_drop, h]
    rw [e, List.getElem?_eq_getElem h]
    by_cases q : l[i] = 9
    · rw [q]; rfl
    · rw [decide_eq_false (fun z => q (Option.some.inj z))]
      simpa using q
  · have e : l.toArray.extract i (i + 1) = #[] := by
      apply Array.ext'
      simp; omega
    rw [e, List.getElem?_eq_none (by omega)]
    rfl
theorem count_take (l : List Nat) (i : Nat) : (l.take (i + 1)).count 9 = (l.take i).count 9 + if l[i]? = some 9 then 1 else 0 := by
  rw [List.take_add_one, List.count_append]
  cases q : l[i]? with
  | none => simp
  | some c =>
    by_cases e : c = 9
    · subst e; simp
    · simp [e]
theorem tab_count (l : List Nat) : Txt.count (tx l) (Str.ofString "\t") = (l.count 9 : Nat) := by
  rw [show Str.ofString "\t" = (⟨#[9]⟩ : Str) from by decide +kernel]
  unfold Txt.count
  rw [PySem.StrLaws.occ_eq]
  have hl : (tx l).length = l.length := by show (l.toArray).size = l.length; simp
  rw [hl]
  have key : ∀ (n i : Nat) (st : Array Nat × Nat), i + n = l.length + 1 → st.1.size = (l.take i).count 9 → st.2 ≤ i →
      (forIn (List.range' i n) st (PySem.StrLaws.occBody (tx l) ⟨#[9]⟩ l.length (l.length + 1))).run.fst.size = l.count 9 := by
    intro n
    induction n with
    | zero =>
      intro i st hi h1 h2
      have : l.take i = l := List.take_of_length_le (by omega)
      rw [this] at h1
      exact h1
    | succ n ih =>
      intro i st hi h1 h2
      rw [List.range'_succ, List.forIn_cons]
      have hc := count_take l i
      have hle : (l.take i).count 9 ≤ i := Nat.le_trans List.count_le_length (by rw [List.length_take]; omega)
      have hs : PySem.Builtin.Str.subAt (tx l) ⟨#[9]⟩ i = decide (l[i]? = some 9) := extract_one l i
      unfold PySem.StrLaws.occBody
      rw [hs]
      by_cases q : l[i]? = some 9
      · have hil := (List.getElem?_eq_some_iff.mp q).1
        rw [if_pos ⟨⟨⟨by omega, h2⟩, by show i + 1 ≤ l.length; omega⟩, decide_eq_true q⟩]
        exact ih (i + 1) (st.fst.push i, i + 1) (by omega) (by rw [hc, if_pos q, Array.size_push, h1]) (Nat.le_refl _)
      · rw [if_neg (fun z => q (of_decide_eq_true z.2))]
        exact ih (i + 1) (st.fst, st.snd) (by omega) (by rw [hc, if_neg q]; exact h1) (by show st.2 ≤ i + 1; omega)
  have := key (l.length + 1 - 0) 0 (#[], 0) (by omega) (by simp) (Nat.le_refl _)
  rw [Array.length_toList, this]
/-! the order of the texts -/
theorem lt_pre (s : List Nat) : ∀ {a b : List Nat}, s ++ a < s ++ b ↔ a < b := by
  induction s with
  | nil => intro a b; exact Iff.rfl
  | cons c s ih =>
    intro a b
    rw [List.cons_append, List.cons_append, List.cons_lt_cons_iff, ih]
    simp
theorem lt_seg {si u v : Int} (hu : 0 ≤ u) (h : u < v) (hv : v ≤ si) (a b : List Nat) : segL si u ++ a < segL si v ++ b ∧ ¬ segL si v ++ b < segL si u ++ a := by
  obtain ⟨n, k, hn, hk⟩ : ∃ n k : Nat, u.toNat = n ∧ v.toNat = n + (k + 1) := ⟨u.toNat, v.toNat - u.toNat - 1, rfl, by omega⟩
  have e1 : segL si u ++ a = List.replicate n 32 ++ (9 :: a) := by
    unfold segL
    rw [if_pos (by omega), hn]; simp
  have e2 : ∃ b', segL si v ++ b = List.replicate n 32 ++ (32 :: b') := by
    unfold segL
    split
    · exact ⟨List.replicate k 32 ++ [9] ++ b, by rw [hk, ← List.replicate_append_replicate, List.replicate_succ]; simp⟩
    · have : si.toNat = n + (k + 1) := by omega
      exact ⟨List.replicate k 32 ++ b, by rw [this, ← List.replicate_append_replicate, List.replicate_succ]; simp⟩
  obtain ⟨b', e2⟩ := e2
  rw [e1, e2, lt_pre, lt_pre, List.cons_lt_cons_iff, List.cons_lt_cons_iff]
  simp
theorem tf_b {si : Int} {l : List Int} {p : Int × Int} (hs : 0 ≤ si) (hl : ∀ f ∈ l, 0 ≤ f ∧ f ≤ si) : 0 ≤ tfF si l p ∧ tfF si l p ≤ si := by
  have h : ∀ i, 0 ≤ l.getD i 0 ∧ l.getD i 0 ≤ si := fun i => by
    rw [List.getD_eq_getElem?_getD]
    cases q : l[i]? with
    | none => exact ⟨Int.le_refl _, hs⟩
    | some f => exact hl f (List.mem_of_getElem? q)
  have := h p.1.toNat
  unfold tfF
  split <;> omega
theorem cmp_eq {si bh : Int} {l m : List Int} (hs : 0 ≤ si) (hl : ∀ f ∈ l, 0 ≤ f ∧ f ≤ si) (hm : ∀ f ∈ m, 0 ≤ f ∧ f ≤ si) : ∀ ks : List (Int × Int), (∀ p ∈ ks, p.2 = 1 ∨ p.2 = -1) →
    cmpK ks l m = b2i (decide (leadL si bh (ks.map (tfF si m)) < leadL si bh (ks.map (tfF si l)))) - b2i (decide (leadL si bh (ks.map (tfF si l)) < leadL si bh (ks.map (tfF si m))))
  | [], _ => by
    show (0 : Int) = _
    simp
  | (k, d) :: ks, h => by
    have ih := cmp_eq (bh := bh) hs hl hm ks (fun p hp => h p (.tail _ hp))
    have hd := h _ (.head _)
    have e : ∀ z : List Int, leadL si bh (((k, d) :: ks).map (tfF si z)) = segL si (tfF si z (k, d)) ++ leadL si bh (ks.map (tfF si z)) := fun z => by simp [leadL]
    rw [e, e]
    have b1 := tf_b (p := (k, d)) hs hl
    have b2 := tf_b (p := (k, d)) hs hm
    have t : ∀ z : List Int, tfF si z (k, d) = if 0 < d then z.getD k.toNat 0 else si - z.getD k.toNat 0 := fun _ => rfl
    have ct : ∀ x y : List Nat, x < y → ¬ y < x → (b2i (decide (y < x)) - b2i (decide (x < y)) = -1 ∧ b2i (decide (x < y)) - b2i (decide (y < x)) = 1) := fun x y p q => by
      rw [decide_eq_true p, decide_eq_false q]; exact ⟨rfl, rfl⟩
    show (if l.getD k.toNat 0 < m.getD k.toNat 0 then -d else if m.getD k.toNat 0 < l.getD k.toNat 0 then d else cmpK ks l m) = _
    by_cases c1 : l.getD k.toNat 0 < m.getD k.toNat 0
    · rw [if_pos c1]
      rcases hd with hd | hd
      · have hd : d = 1 := hd
        subst hd
        have q : tfF si l (k, 1) < tfF si m (k, 1) := by rw [t, t, if_pos (by decide), if_pos (by decide)]; exact c1
        have w := lt_seg b1.1 q b2.2 (leadL si bh (ks.map (tfF si l))) (leadL si bh (ks.map (tfF si m)))
        exact (ct _ _ w.1 w.2).1.symm
      · have hd : d = -1 := hd
        subst hd
        have q : tfF si m (k, -1) < tfF si l (k, -1) := by rw [t, t, if_neg (by decide), if_neg (by decide)]; omega
        have w := lt_seg b2.1 q b1.2 (leadL si bh (ks.map (tfF si m))) (leadL si bh (ks.map (tfF si l)))
        exact (ct _ _ w.1 w.2).2.symm
    · rw [if_neg c1]
      by_cases c2 : m.getD k.toNat 0 < l.getD k.toNat 0
      · rw [if_pos c2]
        rcases hd with hd | hd
        · have hd : d = 1 := hd
          subst hd
          have q : tfF si m (k, 1) < tfF si l (k, 1) := by rw [t, t, if_pos (by decide), if_pos (by decide)]; exact c2
          have w := lt_seg b2.1 q b1.2 (leadL si bh (ks.map (tfF si m))) (leadL si bh (ks.map (tfF si l)))
          exact (ct _ _ w.1 w.2).2.symm
        · have hd : d = -1 := hd
          subst hd
          have q : tfF si l (k, -1) < tfF si m (k, -1) := by rw [t, t, if_neg (by decide), if_neg (by decide)]; omega
          have w := lt_seg b1.1 q b2.2 (leadL si bh (ks.map (tfF si l))) (leadL si bh (ks.map (tfF si m)))
          exact (ct _ _ w.1 w.2).1.symm
      · rw [if_neg c2, ih]
        have q : tfF si l (k, d) = tfF si m (k, d) := by
          have : l.getD k.toNat 0 = m.getD k.toNat 0 := by omega
          rw [t, t, this]
        rw [q, decide_eq_decide.mpr (lt_pre _), decide_eq_decide.mpr (lt_pre _)]
theorem fig_b {si ma x : Int} (hs : 1 ≤ si) : ∀ f ∈ figF si ma x, 0 ≤ f ∧ f ≤ si := fun f h => by
  have := dg_fig (b := si + 1) (by omega) _ f h; omega
theorem keys_d {ma tu n : Int} : ∀ p ∈ keysF ma tu n, p.2 = 1 ∨ p.2 = -1 := by
  intro p hp
  obtain ⟨k, _, rfl⟩ := List.mem_map.mp hp
  have a := Int.fmod_nonneg_of_pos ((n + 2).fdiv (2 ^ k)) (b := 2) (by decide)
  have b := Int.fmod_lt_of_pos ((n + 2).fdiv (2 ^ k)) (b := 2) (by decide)
  show 1 - 2 * (((n + 2).fdiv (2 ^ k)).fmod 2) = 1 ∨ 1 - 2 * (((n + 2).fdiv (2 ^ k)).fmod 2) = -1
  omega
theorem hCmpP (sp n x y : Int) : cmpK (keysF (manyF sp) (turnF sp) n) (figF (sizeF sp) (manyF sp) x) (figF (sizeF sp) (manyF sp) y) =
      b2i (decide ((textF (sizeF sp) (manyF sp) (behF sp) (keysF (manyF sp) (turnF sp) n) y).cps.toList < (textF (sizeF sp) (manyF sp) (behF sp) (keysF (manyF sp) (turnF sp) n) x).cps.toList)) - b2i (decide ((textF (sizeF sp) (manyF sp) (behF sp) (keysF (manyF sp) (turnF sp) n) x).cps.toList < (textF (sizeF sp) (manyF sp) (behF sp) (keysF (manyF sp) (turnF sp) n) y).cps.toList)) := by
  have b := sizeB sp
  have e : ∀ l : List Nat, (tx l).cps.toList = l := fun l => rfl
  unfold textF
  rw [e, e]
  exact cmp_eq (by omega) (fig_b b.1) (fig_b b.1) _ keys_d
theorem hPOP (xs : List Int) (sp : Int) (ls : List Int) (H : WaysInv (sizeF sp) (endF sp) ls 0) : PO (sizeF sp) (manyF sp) (behF sp) (endF sp) ls (partsF (sizeF sp)) (numsF xs) := by
  have b1 := sizeB sp
  have b2 := manyB sp
  have b3 := behB sp
  have b4 := endB sp
  obtain ⟨M, hM⟩ : ∃ M : Nat, M = (manyF sp).toNat := ⟨_, rfl⟩
  have hM' : manyF sp = (M : Int) := by omega
  have he : endF sp = sizeF sp * (M : Int) + behF sp := by unfold endF; rw [hM']
  have hl := H.len
  have H' := H
  rw [he] at H'
  have hw : ls.getD 0 0 = (sizeF sp + 1) ^ M := by
    have := ways_val H' b1.1 b3.1 b3.2 M (Nat.le_refl _)
    rw [Nat.sub_self] at this
    simpa using this
  have hp : ∀ x, placeF (sizeF sp) ls (leadL (sizeF sp) (behF sp) (figF (sizeF sp) (manyF sp) x)) = (endF sp, dv (sizeF sp + 1) (figF (sizeF sp) (manyF sp) x)) := fun x => by
    rw [he]
    exact place_lead H' b1.1 b3.1 b3.2 (fig_b b1.1) (by unfold figF; rw [dg_len, hM])
  refine ⟨⟨by omega, by omega⟩, ?_, fun x _ => by rw [hp], fun x _ => ?_, fun i hi p hp' => ?_, cnt_add, fun l _ => tab_count l⟩
  · rw [hw]
    have hM3 : M = 1 ∨ M = 2 ∨ M = 3 := by omega
    have hs : sizeF sp = 1 ∨ sizeF sp = 2 ∨ sizeF sp = 3 ∨ sizeF sp = 4 ∨ sizeF sp = 5 ∨ sizeF sp = 6 := by omega
    rcases hM3 with h | h | h <;> rw [h] <;> rcases hs with h | h | h | h | h | h <;> rw [h] <;> decide
  · rw [hp, hw]
    show (dg (sizeF sp + 1) (manyF sp).toNat x).1 * (sizeF sp + 1) ^ M + dv (sizeF sp + 1) (dg (sizeF sp + 1) (manyF sp).toNat x).2 = x
    rw [← hM]
    exact dg_dv M
  · obtain ⟨q1, q2, q3⟩ := partsF_mem b1.1 hp'
    rw [sum_wtab, sums_eq q1 b1.1 b3.1 q3, List.length_take, Nat.min_eq_left hi]
/-! ## FlawP -/
theorem lawM {w : World} {mg mb : Str → Option Value} {prog : Program} {A : Around} {E : Value → Shared → Prop} {g : Heap} {s0 s : Shared} {L : Addr} {env : Env} {Q : Flow → Shared → Prop} {CL R : List (Addr × Obj)} {as aw ak an ap : Addr} {tu ma si sp bh en : Int} {τ σ : Nat → Tok} {wh fi pa kk' q f l a c wo x0 : Option Value} {wits kits nits pits : List Value} {kk kp : Nat} {ks : List (Int × Int)} {ls ps nums : List Int} {d : MD}
    (F : Fm w mg mb g env L) (B : Tb mg g) (le : LE env L) (hR : Rm A 30) (hm0 : 1 ≤ ma) (hm1 : ma ≤ 3) (hs0 : 1 ≤ si) (hs1 : si ≤ 6) (hb0 : 0 ≤ bh) (hb1 : bh < si) (hnb : ∀ x ∈ nums, -10000 ≤ x ∧ x ≤ 10000)
    (hwI : IntsAre wits ls) (hnI : IntsAre nits nums) (hpI : IntsAre pits ps) (hpn : ps.Nodup) (hpb : ∀ p ∈ ps, 1 ≤ p ∧ p ≤ 6) (hpz : ps.length ≤ 6) (hkz : ks.length ≤ 3) (hkb : ∀ p ∈ ks, 0 ≤ p.1 ∧ p.1 < ma)
    (hP : PO si ma bh en ls ps nums) (hnz : nums.length ≤ 6)
    (hTR : TR R) (hX : FX aw ak an ap wits kits nits pits kk kp ks R) (hM : MI prog w si ma bh ks ps [] d R)
    (hC : CellsL (lawCs L) (cvM tu ma si σ as wh fi (some (.ref d.ds)) pa (some (.ref d.ac))) CL)
    (C : Cx g s0 L lawNs (vsM sp bh en τ aw ak an ap kk' x0 (some (.ref d.ar)) (some (.ref d.at')) (some (.ref d.ae)) (some (.ref d.ad)) q f l a c wo) (CL ++ R) s)
    (k : ∀ s' d' CL' R' wh fi pa kk' q f l a c wo x0, TR R' → FX aw ak an ap wits kits nits pits kk kp ks R' → MI prog w si ma bh ks ps nums d' R' → CellsL (lawCs L) (cvM tu ma si σ as wh fi (some (.ref d'.ds)) pa (some (.ref d'.ac))) CL' →
      Cx g s0 L lawNs (vsM sp bh en τ aw ak an ap kk' x0 (some (.ref d'.ar)) (some (.ref d'.at')) (some (.ref d'.ae)) (some (.ref d'.ad)) q f l a c wo) (CL' ++ R') s' →
      wpAny (model prog w) A (execs (lawB.drop 17) env) Q E s') :
    wpAny (model prog w) A (execs (lawB.drop 16) env) Q E s := by
  have hh := hR.hh
  have hE := le.E
  have x6 := le.l_x
  have x7 := le.l_numbers
  have hlen : nits.toArray.size = nums.length := by rw [List.size_toArray, hnI.length]
  obtain ⟨J, hJ⟩ : ∃ J : Nat → List (Option Value) → List (Addr × Obj) → Prop, ∀ i vs N, J i vs N ↔ ∃ d CL R wh fi pa kk' q f l a c wo x0, N = CL ++ R ∧ TR R ∧ FX aw ak an ap wits kits nits pits kk kp ks R ∧ MI prog w si ma bh ks ps (nums.take i) d R ∧ CellsL (lawCs L) (cvM tu ma si σ as wh fi (some (.ref d.ds)) pa (some (.ref d.ac))) CL ∧
      vs = vsM sp bh en τ aw ak an ap kk' x0 (some (.ref d.ar)) (some (.ref d.at')) (some (.ref d.ae)) (some (.ref d.ad)) q f l a c wo := ⟨_, fun _ _ _ => Iff.rfl⟩
  refine forS (fun T F' hT => evR (a := an) C F (PE.nR (.loc x7 (by rfl))) fun s1 C1 => it_list hh C1 hE x6 (C1.get (List.mem_append_right _ hX.n)) J (.inr ⟨listOf nits.toArray 0, fun i vs N q => ?_⟩) ((hJ _ _ _).mpr ⟨d, CL, R, wh, fi, pa, kk', q, f, l, a, c, wo, x0, rfl, hTR, hX, hM, hC, rfl⟩) (fun i vs N q => ?_) ?_ ?_) (by intro _; rfl)
  · obtain ⟨_, _, _, _, _, _, _, _, _, _, _, _, _, _, rfl, _, hX, _⟩ := (hJ _ _ _).mp q
    exact List.mem_append_right _ hX.n
  · obtain ⟨_, _, _, _, _, _, _, _, _, _, _, _, _, _, _, _, _, _, _, rfl⟩ := (hJ _ _ _).mp q
    exact Nat.le_of_ble_eq_true rfl
  · clear C C1 hC hTR hX hM hT
    intro i v vs N s2 I o E' T' hi hv q C hT'
    obtain ⟨d, CL, R, wh, fi, pa, kk', q, f, l, a, c, wo, x0, rfl, hTR, hX, hM, hC, rfl⟩ := (hJ _ _ _).mp q
    rw [hlen] at hi
    obtain ⟨tv, hv'⟩ := ints_at (its := nits.toArray) hnI hi
    rw [hv'] at hv; cases hv
    have hget : nums[i]? = some (nums.getD i 0) := by rw [List.getD_eq_getElem?_getD, List.getElem?_eq_getElem hi]; rfl
    have hmem : nums.getD i 0 ∈ nums := List.mem_of_getElem? hget
    have e1 : nums.take (i + 1) = nums.take i ++ [nums.getD i 0] := by rw [List.take_add_one (l := nums) (i := i), hget]; rfl
    have e2 : (nums.take i).length = i := by rw [List.length_take]; omega
    refine lawT F B le hR hm0 hm1 hs0 hs1 hb0 hb1 (hnb _ hmem).1 (hnb _ hmem).2 hwI hpI hpn hpb hpz hkz hkb hP (xs := nums.take i) (x := nums.getD i 0) (by rw [e2, e1]) (by omega) hnz hTR hX hM hC C fun s3 d' CL' R' wh fi pa kk' q f l a c wo hTR' hX' hM' hC' C' => hT'.nx _ _ _ ((hJ _ _ _).mpr ⟨d', CL', R', wh, fi, pa, kk', q, f, l, a, c, wo, _, rfl, hTR', hX', ?_, hC', rfl⟩) C'
    rw [e1]; exact hM'
  · intro vs N s2 hq C
    obtain ⟨d, CL, R, wh, fi, pa, kk', q, f, l, a, c, wo, x0, rfl, hTR, hX, hM, hC, rfl⟩ := (hJ _ _ _).mp hq
    rw [hlen, List.take_length] at hM
    exact hT.nx _ (k s2 d CL R wh fi pa kk' q f l a c wo x0 hTR hX hM hC C)
/-! ## FlawQ -/
theorem lawZ1 {w : World} {mg mb : Str → Option Value} {prog : Program} {A : Around} {E : Value → Shared → Prop} {g : Heap} {s0 s : Shared} {L : Addr} {env : Env} {Q : Flow → Shared → Prop} {CL R : List (Addr × Obj)} {ak : Addr} {cv : List (Option Value)} {v0 v1 v2 v3 v4 v6 v7 v8 v9 v10 v11 v12 v13 v14 v15 v16 v17 v18 : Option Value} {kits : List Value} {kk : Nat}
    (F : Fm w mg mb g env L) (le : LE env L) (hR : Rm A 5) (hkz : kits.length ≤ 3) (hak : (ak, listOf kits.toArray kk) ∈ R)
    (C : Cx g s0 L lawNs [v0, v1, v2, v3, v4, some (.ref ak), v6, v7, v8, v9, v10, v11, v12, v13, v14, v15, v16, v17, v18, none, none, none] (CL ++ R) s)
    (k : ∀ s' x dx ta es m, getL (Str.ofString "comp_select_list") es = some (some (.ref ta)) → getL (Str.ofString "compare") es = some none →
      Cx g s0 L lawNs [v0, v1, v2, v3, v4, some (.ref ak), v6, v7, v8, v9, v10, v11, v12, v13, v14, v15, v16, v17, v18, some (.ref x), none, none] (CL ++ ((dx, PySem.W.dictOf es m) :: (x, instObj 87 dx) :: (ta, tupOf kits.toArray) :: R)) s' →
      wpAny (model prog w) A (execs (lawB.drop 18) env) Q E s') :
    wpAny (model prog w) A (execs (lawB.drop 17) env) Q E s := by
  have hE := le.E
  have x5 := le.l_keys
  have x19 := le.l_comp
  have lt : ∀ {n m : Nat}, Nat.ble n m = true → n ≤ m := Nat.le_of_ble_eq_true
  refine asE C F x19 (callE (nm_TupleComp (C.wd F.W) hE le.g_TupleComp (callW F.W pl_87 (by rfl) (by rfl) (splC (callP (pvs := [.ref ak]) C F (.t "tuple") (fun W q => nm_tuple W hE le.g_tuple q) (.cons (PE.nR (.loc x5 (by rfl))) .nil (by rfl)) fun s1 τ1 C1 => tupL C1 (.n (List.mem_append_right _ hak)) (by simp only [List.size_toArray, sizeLine]; omega) fun s2 ta C2 => spl0 ⟨⟨_, _, _, _, _, C2⟩, clsE (fI := 77) C2 F (by kernel_rfl) (by kernel_rfl) (by kernel_rfl) fun x dx s3 R' hne C3 hR' => ?_⟩) (by rfl))))) (by rfl)
  have hk2 : ∀ b o, g.get? b = some o → (hideAll s3.heap [dx]).get? b = some o := fun b o e => hideAll_get _ (C3.fr.keep _ _ e) fun q => by
    rw [List.mem_singleton.mp q, (C3.nw _ (.head _)).2.2] at e; cases e
  refine tci_call (ta := ta) (F.W.keeps hk2) (Rm.under (hR.mono (by decide))) (C3.get (.tail _ (.head _))) (C3.get (.head _)) hne fun s4 es m kp hd e1 e2 => hR' _ ?_
  have C4 := Cx.mod (M := [(dx, PySem.W.dictOf [] 0)]) (M' := [(dx, PySem.W.dictOf es m)]) C3 rfl kp (fun p hp => by rw [List.mem_singleton.mp hp]; exact hd)
  have C5 := Cx.foldM (T := [(dx, PySem.W.dictOf es m), (x, instObj 87 dx), (ta, tupOf kits.toArray)]) C4
  exact ⟨_, _, C5, lt rfl, fun s5 C6 => k s5 x dx ta es m e1 e2 C6⟩

theorem lawZ2 {w : World} {mg mb : Str → Option Value} {prog : Program} {A : Around} {E : Value → Shared → Prop} {g : Heap} {s0 s : Shared} {L : Addr} {env : Env} {Q : Flow → Shared → Prop} {CL R : List (Addr × Obj)} {ar at' x dx ta : Addr} {v0 v1 v2 v3 v4 v5 v6 v7 v10 v11 v12 v13 v14 v15 v16 v17 v18 : Option Value} {rits tits kits : List Value} {kr kt m : Nat} {es : List DictEntry} {fss : List (List Int)} {ys : List Str} {ks : List (Int × Int)} {mm : Nat}
    (F : Fm w mg mb g env L) (le : LE env L) (hR : Rm A 5) (hfz : fss.length ≤ 6) (hyz : ys.length = fss.length) (hmm : ∀ fs ∈ fss, fs.length = mm) (hm3 : mm ≤ 3) (hkb : ∀ p ∈ ks, 0 ≤ p.1 ∧ p.1 < mm)
    (har : (ar, listOf rits.toArray kr) ∈ R) (hr : RowsIn R rits fss) (hat : (at', listOf tits.toArray kt) ∈ R) (ht : TextsAt tits ys) (hx : (x, instObj 87 dx) ∈ R) (hdx : (dx, PySem.W.dictOf es m) ∈ R) (h1 : getL (Str.ofString "comp_select_list") es = some (some (.ref ta))) (h2 : getL (Str.ofString "compare") es = some none) (hta : (ta, tupOf kits.toArray) ∈ R) (hkP : PairsIn R kits ks)
    (hcmp : ∀ (i j : Nat) fi fj yi yj, fss[i]? = some fi → fss[j]? = some fj → ys[i]? = some yi → ys[j]? = some yj → cmpK ks fi fj = b2i (decide (yj.cps.toList < yi.cps.toList)) - b2i (decide (yi.cps.toList < yj.cps.toList)))
    (C : Cx g s0 L lawNs [v0, v1, v2, v3, v4, v5, v6, v7, some (.ref ar), some (.ref at'), v10, v11, v12, v13, v14, v15, v16, v17, v18, some (.ref x), none, none] (CL ++ R) s)
    (k : ∀ s' vs', Cx g s0 L lawNs vs' (CL ++ R) s' → Q (.ret (.bool true)) s') :
    wpAny (model prog w) A (execs (lawB.drop 18) env) Q E s := by
  have hh := hR.hh
  have hE := le.E
  have x8 := le.l_rows
  have x9 := le.l_texts
  have x19 := le.l_comp
  have x20 := le.l_i
  have x21 := le.l_j
  have g8 := le.g_len
  have lt : ∀ {n m : Nat}, Nat.ble n m = true → n ≤ m := Nat.le_of_ble_eq_true
  have rlen : rits.toArray.size = fss.length := by rw [List.size_toArray, hr.1]
  obtain ⟨J, hJ⟩ : ∃ J : Nat → List (Option Value) → List (Addr × Obj) → Prop, ∀ i vs N, J i vs N ↔ ∃ vi vj, N = CL ++ R ∧ vs = [v0, v1, v2, v3, v4, v5, v6, v7, some (.ref ar), some (.ref at'), v10, v11, v12, v13, v14, v15, v16, v17, v18, some (.ref x), vi, vj] := ⟨_, fun _ _ _ => Iff.rfl⟩
  refine forS (fun T F' hT => callP (pvs := [.int rits.toArray.size]) C F (.t "range") (fun W q => nm_range W hE le.g_range q) (.cons (PE.lenL (.len g8) (PE.nR (.loc x8 (by rfl))) (.n (List.mem_append_right _ har)) (by omega) (by rfl)) .nil (by rfl)) fun s1 τ1 C1 => rng1 C1 fun s2 rr u1 u2 u3 C2 => it_range hh C2.drop hE x20 (C2.get (.head _)) (small_up (by omega) (by omega) (by omega) (by omega)) rs_up J ((hJ _ _ _).mpr ⟨_, _, rfl, rfl⟩) (fun i vs N q => ?_) ?_ ?_) (by intro _; rfl)
  · obtain ⟨_, _, _, rfl⟩ := (hJ _ _ _).mp q
    exact lt rfl
  · clear C C1 C2 hT
    intro i ti vs N s3 I o E1 T1 hi q C hT1
    obtain ⟨vi, vj, rfl, rfl⟩ := (hJ _ _ _).mp q
    have hi' : i < fss.length := by omega
    have C : Cx g s0 L lawNs [v0, v1, v2, v3, v4, v5, v6, v7, some (.ref ar), some (.ref at'), v10, v11, v12, v13, v14, v15, v16, v17, v18, some (.ref x), some (.int (0 + i * 1) ti), vj] ((I, o) :: (CL ++ R)) s3 := C
    rw [show (0 + (i : Int) * 1) = i from by omega] at C
    have mR : ∀ {q : Addr × Obj}, q ∈ R → q ∈ (I, o) :: (CL ++ R) := fun h => .tail _ (List.mem_append_right _ h)
    obtain ⟨ai, itsi, ci, a1, a2, a3⟩ := hr.2 i fss[i] (List.getElem?_eq_getElem hi')
    obtain ⟨ui, b1⟩ := ht.2 i ys[i] (List.getElem?_eq_getElem (by omega))
    obtain ⟨J2, hJ2⟩ : ∃ J : Nat → List (Option Value) → List (Addr × Obj) → Prop, ∀ j vs N, J j vs N ↔ ∃ vj, N = (I, o) :: (CL ++ R) ∧ vs = [v0, v1, v2, v3, v4, v5, v6, v7, some (.ref ar), some (.ref at'), v10, v11, v12, v13, v14, v15, v16, v17, v18, some (.ref x), some (.int i ti), vj] := ⟨_, fun _ _ _ => Iff.rfl⟩
    refine forS (fun T F' hT => callP (pvs := [.int rits.toArray.size]) C F (.t "range") (fun W q => nm_range W hE le.g_range q) (.cons (PE.lenL (.len g8) (PE.nR (.loc x8 (by rfl))) (.n (mR har)) (by omega) (by rfl)) .nil (by rfl)) fun s4 τ4 C4 => rng1 C4 fun s5 rr u1 u2 u3 C5 => it_range hh C5.drop hE x21 (C5.get (.head _)) (small_up (by omega) (by omega) (by omega) (by omega)) rs_up J2 ((hJ2 _ _ _).mpr ⟨_, rfl, rfl⟩) (fun i vs N q => ?_) ?_ ?_) (by intro _; rfl)
    · obtain ⟨_, _, rfl⟩ := (hJ2 _ _ _).mp q
      exact lt rfl
    · clear C C4 C5 hT
      intro j tj vs N s6 I2 o2 E2 T2 hj q C hT2
      obtain ⟨vj, rfl, rfl⟩ := (hJ2 _ _ _).mp q
      have hj' : j < fss.length := by omega
      have C : Cx g s0 L lawNs [v0, v1, v2, v3, v4, v5, v6, v7, some (.ref ar), some (.ref at'), v10, v11, v12, v13, v14, v15, v16, v17, v18, some (.ref x), some (.int i ti), some (.int (0 + j * 1) tj)] ((I2, o2) :: (I, o) :: (CL ++ R)) s6 := C
      rw [show (0 + (j : Int) * 1) = j from by omega] at C
      have mR2 : ∀ {q : Addr × Obj}, q ∈ R → q ∈ (I2, o2) :: (I, o) :: (CL ++ R) := fun h => .tail _ (mR h)
      obtain ⟨aj, itsj, cj, c1, c2, c3⟩ := hr.2 j fss[j] (List.getElem?_eq_getElem hj')
      obtain ⟨uj, d1⟩ := ht.2 j ys[j] (List.getElem?_eq_getElem (by omega))
      have hli : fss[i].length = mm := hmm _ (List.getElem_mem hi')
      have hlj : fss[j].length = mm := hmm _ (List.getElem_mem hj')
      have hcm := hcmp i j _ _ _ _ (List.getElem?_eq_getElem hi') (List.getElem?_eq_getElem hj') (List.getElem?_eq_getElem (by omega)) (List.getElem?_eq_getElem (by omega))
      have it : ∀ {nm : Str} {p1 p2 p3 : Pos} {nx : Str} {l : Addr} {its : List Value} {c : Nat} {n : Nat} {t : Tok} {pv : PV} {t' : Tok}, FN env g lawNs [v0, v1, v2, v3, v4, v5, v6, v7, some (.ref ar), some (.ref at'), v10, v11, v12, v13, v14, v15, v16, v17, v18, some (.ref x), some (.int i ti), some (.int j tj)] ((I2, o2) :: (I, o) :: (CL ++ R)) nm (.ref l) → FN env g lawNs [v0, v1, v2, v3, v4, v5, v6, v7, some (.ref ar), some (.ref at'), v10, v11, v12, v13, v14, v15, v16, v17, v18, some (.ref x), some (.int i ti), some (.int j tj)] ((I2, o2) :: (I, o) :: (CL ++ R)) nx (.int n t) → (l, listOf its.toArray c) ∈ R → n ≤ 6 → its[n]? = some (PV.val pv t') →
          PE (FN env g lawNs [v0, v1, v2, v3, v4, v5, v6, v7, some (.ref ar), some (.ref at'), v10, v11, v12, v13, v14, v15, v16, v17, v18, some (.ref x), some (.int i ti), some (.int j tj)] ((I2, o2) :: (I, o) :: (CL ++ R))) (Kn g ((I2, o2) :: (I, o) :: (CL ++ R))) (.Subscript (.Name nm p1) (.Name nx p2) p3) pv := fun {nm p1 p2 p3 nx l its c n t pv t'} h1 h2 h3 h4 h5 =>
        PE.item (n := n) (t := t') (PE.nR h1) (.n (mR2 h3)) (PE.nI h2) (by omega) (by omega) (by simpa using h5) (by rfl)
      refine execsT fun T3 hT3 => wpAny_If (wpAny_isTrue_Compare1 (methE (f := 84) (pvs := [.ref ai, .ref aj]) C F (PE.nR (.loc x19 (by rfl))) (.n (mR2 hx)) (.n (mR2 hdx)) (by kernel_rfl) (by kernel_rfl) (by kernel_rfl) h2 (by kernel_rfl) (.cons (it (t' := 0) (.loc x8 (by rfl)) (.loc x20 (by rfl)) har (by omega) a1) (.cons (it (t' := 0) (.loc x8 (by rfl)) (.loc x21 (by rfl)) har (by omega) c1) .nil (by rfl)) (by rfl)) (by with_unfolding_all rfl) fun s7 τ7 C7 => cal fun R6 hR6 =>
        tcc_call (C7.wd F.W) (hR.mono (by decide)) (C7.get (mR2 hx)) (C7.get (mR2 hdx)) h1 (C7.get (mR2 hta)) (hkP.at_ fun a o h => C7.get (mR2 h)) (C7.get (mR2 a2)) a3 (C7.get (mR2 c2)) c3 (fun p hp => by have := hkb p hp; rw [hli, hlj]; omega) (by omega) fun s8 t8 u => hR6 _ _ (evI (n := b2i (decide (ys[j].cps.toList < ys[i].cps.toList)) - b2i (decide (ys[i].cps.toList < ys[j].cps.toList))) (C7.up u) F (PE.bsub (PE.scmp (it (.loc x9 (by rfl)) (.loc x20 (by rfl)) hat (by omega) b1) (it (.loc x9 (by rfl)) (.loc x21 (by rfl)) hat (by omega) d1) (by rfl) (by with_unfolding_all rfl)) (PE.scmp (it (.loc x9 (by rfl)) (.loc x20 (by rfl)) hat (by omega) b1) (it (.loc x9 (by rfl)) (.loc x21 (by rfl)) hat (by omega) d1) (by rfl) (by with_unfolding_all rfl))) fun s9 t9 C9 => wpCmpI (by rfl) (wpAny_truthy_bool ?_))) (by with_unfolding_all rfl))
      rw [hcm, show ∀ z : Int, (z != z) = false from fun z => by simp, if_neg (by decide)]
      exact nextP (hT3.nx _ (nextP (hT2.nx _ _ _ ((hJ2 _ _ _).mpr ⟨_, rfl, rfl⟩) C9)))
    · intro vs N s6 q C
      obtain ⟨vj, rfl, rfl⟩ := (hJ2 _ _ _).mp q
      exact hT.nx _ (nextP (hT1.nx _ _ _ ((hJ _ _ _).mpr ⟨_, _, rfl, rfl⟩) C))
  · intro vs N s3 q C
    obtain ⟨vi, vj, rfl, rfl⟩ := (hJ _ _ _).mp q
    exact hT.nx _ (retP (pv := .bool true) C F PE.bool fun s4 t4 C4 => k s4 _ C4)
/-! ## FlawR -/
theorem keysF_len {ma tu n : Int} : (keysF ma tu n).length = ma.toNat := by simp [keysF]
theorem keysF_mem {ma tu n : Int} (hm : 1 ≤ ma) : ∀ p ∈ keysF ma tu n, 0 ≤ p.1 ∧ p.1 < ma := by
  intro p h
  obtain ⟨k, _, rfl⟩ := List.mem_map.mp h
  exact ⟨Int.fmod_nonneg_of_pos _ (by omega), Int.fmod_lt_of_pos _ (by omega)⟩

theorem lawBody {w : World} {mg mb : Str → Option Value} {prog : Program} {A : Around} {E : Value → Shared → Prop} {g : Heap} {s0 s : Shared} {L : Addr} {env : Env} {Q : Flow → Shared → Prop} {CL R : List (Addr × Obj)} {as : Addr} {items : List Value} {xs : List Int}
    (hPO : ∀ sp ls, WaysInv (sizeF sp) (endF sp) ls 0 → PO (sizeF sp) (manyF sp) (behF sp) (endF sp) ls (partsF (sizeF sp)) (numsF xs))
    (hCmp : ∀ sp n (x y : Int), cmpK (keysF (manyF sp) (turnF sp) n) (figF (sizeF sp) (manyF sp) x) (figF (sizeF sp) (manyF sp) y) =
      b2i (decide ((textF (sizeF sp) (manyF sp) (behF sp) (keysF (manyF sp) (turnF sp) n) y).cps.toList < (textF (sizeF sp) (manyF sp) (behF sp) (keysF (manyF sp) (turnF sp) n) x).cps.toList)) - b2i (decide ((textF (sizeF sp) (manyF sp) (behF sp) (keysF (manyF sp) (turnF sp) n) x).cps.toList < (textF (sizeF sp) (manyF sp) (behF sp) (keysF (manyF sp) (turnF sp) n) y).cps.toList)))
    (F : Fm w mg mb g env L) (B : Tb mg g) (le : LE env L) (hR : Rm A 30) (hl : g.IsList as items.toArray) (hI : IntsAre items xs) (hz : items.length ≤ 63) (hTR : TR R)
    (hC : CellsL (lawCs L) [none, none, none, none, none, none, none, none, some (.ref as)] CL) (C : Cx g s0 L lawNs (List.replicate 22 none) (CL ++ R) s)
    (k : ∀ s' vs' CL' R', TR R' → Cx g s0 L lawNs vs' (CL' ++ R') s' → Q (.ret (.bool true)) s') :
    wpAny (model prog w) A (execs lawB env) Q E s := by
  obtain ⟨sp, hsp⟩ : ∃ sp, sp = xs.sum + 27 := ⟨_, rfl⟩
  have b1 := sizeB sp
  have b2 := manyB sp
  have b3 := behB sp
  have hR5 : Rm A 5 := hR.mono (by decide)
  have hR2 : Rm A 2 := hR.mono (by decide)
  refine lawA1 F le hR2 hl hI hC C fun s1 CL1 aw its ls τ σ hC1 hwI hW C1 => ?_
  rw [← hsp] at hC1 hW C1
  have hP := hPO sp ls hW
  have hCm := hCmp sp items.length
  generalize endF sp = en at C1 hP
  generalize hbh : behF sp = bh at C1 hP hCm b3
  generalize htu : turnF sp = tu at hC1 hCm
  generalize hma : manyF sp = ma at hC1 hP hCm b2
  generalize hsi : sizeF sp = si at hC1 hP hCm b1 b3
  clear C hW hPO hCmp
  obtain ⟨wits⟩ := its
  have C1 : Cx g s0 L lawNs [some (.int sp (τ 0)), some (.int bh (τ 1)), some (.int en (τ 2)), some (.ref aw), none, none, none, none, none, none, none, none, none, none, none, none, none, none, none, none, none, none] (CL1 ++ ((aw, listOf wits.toArray 0) :: R)) s1 := C1
  have hwI : IntsAre wits ls := hwI
  refine lawA2 F le hR2 hl hz b2.1 b2.2 hC1 C1 fun s2 ak kits kk Nm hkP C2 => ?_
  refine lawA3 F le hR2 hl hI hz hC1 C2 fun s3 an nits hnI C3 => ?_
  refine lawA4 F le hC1 C3 fun s4 CL4 ar at' ac dk ae ad kd τ4 υ4 hC4 hds hD C4 => ?_
  refine lawA5 F le hR2 b1.1 b1.2 hC4 C4 fun s5 ap pits kp hpI C5 => ?_
  have hpz := partsF_len (si := si)
  refine lawA6 F le hR2 (by omega) partsF_nodup hpI hC4 (.head _) C5 fun s6 CL6 ds kds kvss hC6 hds2 hD2 hV2 C6 => ?_
  have hkl : (keysF ma tu items.length).length = ma.toNat := keysF_len
  refine lawM (d := ⟨ar, at', ac, ae, dk, ad, ds, [], [], [], 0, 0, 0, kd, kds, [], kvss, 0, 0, 0, τ4, υ4⟩) (ls := ls) (nums := numsF xs) (ps := partsF si) (ks := keysF ma tu items.length) (wits := wits) (kits := kits) (nits := nits) (pits := pits) (kk := kk) (kp := kp) F B le hR b2.1 b2.2 b1.1 b1.2 b3.1 b3.2 numsF_bound hwI hnI hpI partsF_nodup
    (fun p hp => by have := partsF_mem b1.1 hp; omega) (by omega) (by omega) (keysF_mem b2.1) hP numsF_len ?_ ?_ ?_ hC6 C6 fun s7 d CL7 R7 wh fi pa k7 q f l a c wo x0 hTR7 hX7 hM7 hC7 C7 => ?_
  · exact TR.app (T := [_, _, _, _, _, _, _, _, _, _]) (TR.app (T := Nm) hTR.cons)
  · refine ⟨?_, ?_, ?_, ?_, ?_⟩
    · exact List.mem_append_right [_, _, _, _, _, _, _, _, _, _] (List.mem_append_right Nm (.head _))
    · k_mem
    · exact hkP.mono fun x h => List.mem_append_right [_, _, _, _, _, _, _, _, _, _] (List.mem_append_left _ h)
    · k_mem
    · k_mem
  · refine ⟨?_, ⟨rfl, fun j fs h => by simp at h⟩, ?_, ⟨rfl, fun j fs h => by simp at h⟩, ?_, .nil, ?_, by k_mem, hD, .nil, hds, ?_, .head _, hD2, hV2⟩
    · show (ar, listOf #[] 0) ∈ _; k_mem
    · show (at', listOf #[] 0) ∈ _; k_mem
    · show (ac, listOf #[] 0) ∈ _; k_mem
    · show (ae, tupOf #[.int 0 (τ4 0), .int 0 (τ4 1), .int 0 (τ4 2), .int 0 (τ4 3), .ref dk]) ∈ _; k_mem
    · show (ad, tupOf #[.int 0 (υ4 0), .int 0 (υ4 1), .int 0 (υ4 2), .int 0 (υ4 3)]) ∈ _; k_mem
  have hk7 := hX7.kP.1
  refine lawZ1 (cv := []) F le hR5 (by omega) hX7.k C7 fun s8 x dx ta es m e1 e2 C8 => ?_
  have hS : ∀ {z1 z2 z3 : Addr × Obj}, Ss R7 (z1 :: z2 :: z3 :: R7) := Ss.rf.c.c.c
  refine lawZ2 (mm := ma.toNat) (fss := (numsF xs).map (figF si ma)) (ys := (numsF xs).map (textF si ma bh (keysF ma tu items.length))) F le hR5 (by rw [List.length_map]; exact numsF_len) (by rw [List.length_map, List.length_map]) ?_ (by omega) (fun p hp => by have := keysF_mem b2.1 p hp; omega)
    (.tail _ (.tail _ (.tail _ hM7.har))) (hM7.hr.mono hS) (.tail _ (.tail _ (.tail _ hM7.hat))) hM7.ht (.tail _ (.head _)) (.head _) e1 e2 (.tail _ (.tail _ (.head _))) (hX7.kP.ss hS) ?_ C8 fun s9 vs' C9 => k s9 vs' CL7 _ (TR.app (T := [_, _, _]) hTR7) C9
  · intro fs h
    obtain ⟨x, _, rfl⟩ := List.mem_map.mp h
    exact dg_len _
  · intro i j fi fj yi yj h1 h2 h3 h4
    rw [List.getElem?_map] at h1 h2 h3 h4
    obtain ⟨u, hu, rfl⟩ := Option.map_eq_some_iff.mp h1
    obtain ⟨v, hv, rfl⟩ := Option.map_eq_some_iff.mp h2
    rw [hu] at h3; rw [hv] at h4
    cases h3; cases h4
    exact hCm u v
/-! ## FlawS -/
/-- the entry of law -/
theorem enterL {w : World} {mg mb : Str → Option Value} {prog : Program} {A : Around} {s : Shared} {R : Result → Shared → Prop} {k : Nat} {g : Heap} (hid : List (Addr × Obj))
    {f : Addr} {o : Obj} {name : Str} {params : Arguments} {body : List Stmt} {scope : Scope} {doc pm cdv : Value} {args : List Value} {binds : List (Str × Value)} {ns : List Str} {vs : List (Option Value)}
    (hnl : s.heap.NoLimit) (hgk : ∀ b o, g.get? b = some o → s.heap.get? b = some o) (hgs : g.objs.size ≤ s.heap.objs.size) (hhid : ∀ p ∈ hid, s.heap.get? p.1 = some p.2 ∧ g.get? p.1 = none) (hhn : (hid.map (·.1)).Nodup) (hR : Rm A (k + 1))
    (ho : s.heap.get? f = some o) (hd : o.data = .func (docDef name params body scope pm cdv doc)) (hcd : s.heap.CodeRec cdv name)
    (hbind : bindArgs (docDef name params body scope pm cdv doc) ⟨args, []⟩ = pure binds)
    (hkind : (binds.all fun y => scope.names.lookup y.1 == some .local || scope.names.lookup y.1 == some .cell) = true)
    (hnd : ((cellsFrom 0 scope.names []).map (·.1)).Nodup)
    (hl : bindL (fun x => scope.names.lookup x) binds (fun _ => none) = lk ns vs)
    (h : ∀ (env : Env) (L : Addr) (A' : Around) (E : Value → Shared → Prop) (Q : Flow → Shared → Prop) (s1 : Shared) (cells : List (Addr × Obj)), env = envX name scope L f cdv (cellsFrom (L + 1) scope.names []) → Blk scope env cdv (cellsFrom (L + 1) scope.names []) → EnvL env L → Rm A' k →
      (∀ v s', R (.ok (.ret v)) s' → Q (.ret v) s') → CellsAre (bindC (fun x => scope.names.lookup x) binds fun _ => none) (cellsFrom (L + 1) scope.names []) cells →
      Cx g s L ns vs (cells ++ hid) s1 → wpAny (model prog w) A' (execs body env) Q E s1)
    (hcn : ∀ n, ((cellsFrom n scope.names []).map (·.2)).Nodup)
    (hco : scope.isCoroutine = false) (hgen : scope.isGenerator = false) (hk : scope.kind = .function) :
    codeAny (model prog w) A (.call (.ref f) ⟨args, []⟩) R s := by
  refine call_cellsN hR.room ho hd hnl hcd hbind (kindsX hkind _) hnd (fun h₁ tk cells F N X => ?_) hco hgen hk
  have nd : (cells.map (·.1)).Nodup := by
    have e : ∀ {cm : Str → Option Value} {cs : List (Str × Addr)} {cl : List (Addr × Obj)}, CellsAre cm cs cl → cl.map (·.1) = cs.map (·.2) := by
      intro cm cs cl x
      induction x with
      | nil => rfl
      | cons _ _ ih => simp [ih]
    rw [e X]; exact hcn _
  have gn : ∀ b, s.heap.get? b = none → g.get? b = none := fun b e => by
    cases q : g.get? b with
    | none => rfl
    | some o => rw [hgk _ _ q] at e; cases e
  refine h _ s.heap.objs.size _ _ _ { s with heap := h₁, toks := tk } cells rfl ⟨fun a b c => ⟨a, b, c⟩, fun a b => ⟨a, b⟩, fun a => a, rfl, rfl, (by show (scope.kind == .module && _) = false; rw [hk]; rfl)⟩ ⟨rfl, rfl, hk, rfl⟩ hR.deeper (fun _ _ r => r) X ⟨?_, fun p hp => ?_, ?_, ⟨rfl, rfl, rfl⟩⟩
  · rw [← hl]; exact ⟨F.ns, fun b o e => F.keep b o (hgk b o e), hgs⟩
  · rcases List.mem_append.mp hp with hp | hp
    · exact ⟨(N p hp).1, (N p hp).2.1, gn _ (N p hp).2.2⟩
    · exact ⟨F.keep _ _ (hhid p hp).1, Nat.ne_of_lt (Heap.lt_size (hhid p hp).1), (hhid p hp).2⟩
  · rw [List.map_append, List.nodup_append]
    refine ⟨nd, hhn, fun a ha b hb e => ?_⟩
    obtain ⟨p, hp, rfl⟩ := List.mem_map.mp ha
    obtain ⟨q, hq, rfl⟩ := List.mem_map.mp hb
    have := (N p hp).2.2
    rw [e, (hhid q hq).1] at this; cases this
theorem lawAll
    (hPO : ∀ xs sp ls, WaysInv (sizeF sp) (endF sp) ls 0 → PO (sizeF sp) (manyF sp) (behF sp) (endF sp) ls (partsF (sizeF sp)) (numsF xs))
    (hCmp : ∀ sp n (x y : Int), cmpK (keysF (manyF sp) (turnF sp) n) (figF (sizeF sp) (manyF sp) x) (figF (sizeF sp) (manyF sp) y) =
      b2i (decide ((textF (sizeF sp) (manyF sp) (behF sp) (keysF (manyF sp) (turnF sp) n) y).cps.toList < (textF (sizeF sp) (manyF sp) (behF sp) (keysF (manyF sp) (turnF sp) n) x).cps.toList)) - b2i (decide ((textF (sizeF sp) (manyF sp) (behF sp) (keysF (manyF sp) (turnF sp) n) x).cps.toList < (textF (sizeF sp) (manyF sp) (behF sp) (keysF (manyF sp) (turnF sp) n) y).cps.toList))) : R.Holds := by
  refine Mine.hd ?_
  intro w s0 s1 mg mb G Y fa o pm cd doc dV kV ho hd hcd hD hmg hg args vals as hpre hlay hrd hwl hlo
  have KX := km_in_of Y
  have hT8 := km_tabs_of Y
  refine Ground.open G ?_
  intro T B D TE TW
  have hT9 : TabsAt ([(48, 44), (41, 37)] : List (Addr × Addr)) s1.heap := List.forall_mem_cons.mpr ⟨⟨codeHd_of_K (c := 48) (P := 44) KX (by kernel_rfl), hT8 44 (by k_mem)⟩, List.forall_mem_cons.mpr ⟨⟨codeHd_of_K (c := 41) (P := 37) KX (by kernel_rfl), hT8 37 (by k_mem)⟩, fun _ h => nomatch h⟩⟩
  wrow_args hpre hlay hrd hwl hlo
  rename_i xs hs hlay0 hL1 hr1 hl2 a4 a3 as items a0 hL ra w1 r0 hI hr hcond hcond2
  have he := Dflts.none hD rfl
  subst he
  have he := Dflts.noKw hD
  subst he
  refine enter_call ?_
  refine kn_post hT9 (fun _ _ => rfl) ?_
  clear hcond2 hr r0 w1 ra a0 a3 a4 hl2 hr1 hL1 hlay0 hs
  obtain ⟨g, hgg⟩ : ∃ g, g = ghostOf s1.heap [(48, 44), (41, 37)] := ⟨_, rfl⟩
  have hgk : ∀ b o, g.get? b = some o → s1.heap.get? b = some o := fun b o e => by rw [hgg] at e; exact of_hideAll _ e
  have h37 : s1.heap.get? 37 = some (tabObj #[]) ∧ g.get? 37 = none := ⟨hT8 37 (by k_mem), by rw [hgg]; exact hideAll_none _ (by simp)⟩
  have h44 : s1.heap.get? 44 = some (tabObj #[]) ∧ g.get? 44 = none := ⟨hT8 44 (by k_mem), by rw [hgg]; exact hideAll_none _ (by simp)⟩
  have gt := ghost_top hT9 T
  rw [← hgg] at gt
  have gl : g.IsList as items.toArray := hgg ▸ ghost_list hT9 hL
  have gK : (KF w).In g := hgg ▸ ghost_K hT9 KX (by kernel_rfl)
  have gc : CodeAll [(48, 44), (41, 37)] g := hgg ▸ ghost_code hT9
  have gsz : g.objs.size ≤ s1.heap.objs.size := Nat.le_of_eq (by rw [hgg]; exact hideAll_size _ _)
  have W : Wd w mg mb g := ⟨gK, gt.g, gt.b, gt.nolimit, gt.builtins⟩
  have TB : Tb mg g := ⟨gt.bmain, gc.2.1, gc.1⟩
  rw [← hgg]
  have hzz : items.length ≤ 63 := by rw [hI.length]; omega
  have gnl := T.nolimit
  clear gt gK gc TE TW D B hL hT8 KX Y hcond
  refine enterL (mg := mg) (mb := mb) (k := 30) (hid := [(37, tabObj #[]), (44, tabObj #[])]) (ns := lawNs) (vs := List.replicate 22 none) gnl hgk gsz
    (fun p hp => ?_) (by decide) ⟨rfl, by decide, by decide⟩ ho (fd_plain hd) hcd (by rfl) (by rfl) (by decide +kernel) ?_ (fun env L A' E Q s1' cells henv hB hE hR' hQ hc C => ?_) (fun n => ?_) (by rfl) (by rfl) (by rfl)
  · rcases List.mem_cons.mp hp with rfl | hp
    · exact h37
    · rw [List.mem_singleton.mp hp]; exact h44
  · exact bindsV (by rfl) (by rfl)
  · have le := LE.of hB hE
    have hC := CellsL.of hc
    refine lawBody (CL := cells) (R := [(37, tabObj #[]), (44, tabObj #[])]) (hPO xs) hCmp ⟨W, hE⟩ TB le hR' gl hI hzz ⟨_, [], .refl _, none, none, .refl _, ⟨(fun _ _ h => by cases h), fun _ _ h => by cases h⟩⟩ hC C fun s' vs' CL' R' hTR C' => hQ _ _ ⟨goodW_bool C'.fr (C'.same.gens.trans hg) (raisesW_false ?_) ?_ C'.same.os, ?_⟩
    · clear hPO hCmp; wrow_none_raised
    · clear hPO hCmp; kc_post
    obtain ⟨M, X, hp, t1, t2, hM, _, _⟩ := hTR
    have gr : ∀ P ps, (P, tabObj ps) ∈ M → GrownAt P s'.heap := fun P ps h => ⟨ps, C'.get (List.mem_append_right _ (hp.mem_iff.mpr (List.mem_append_left _ h)))⟩
    refine ⟨?_, ?_, trivial⟩
    · cases t2 with
      | none => exact gr 44 _ (hM.mem_iff.mpr (List.mem_append_right _ (.head _)))
      | some q => exact gr 44 _ (hM.mem_iff.mpr (List.mem_append_right _ (.head _)))
    · cases t1 with
      | none => exact gr 37 _ (hM.mem_iff.mpr (List.mem_append_left _ (.head _)))
      | some q => exact gr 37 _ (hM.mem_iff.mpr (List.mem_append_left _ (.head _)))
  · show ([n + 8, n + 7, n + 6, n + 5, n + 4, n + 3, n + 2, n + 1, n] : List Nat).Nodup; simp
end Mine
theorem PySem.Challenge.cw_ph0171_01_holds : PySem.Challenge.rw_ph0171_01.Holds :=
  Mine.lawAll Mine.hPOP Mine.hCmpP
