import PyProof.Rows.All
import Wide.All
import OpenK.AllK
import Wide.FinOn
import PySem.Challenge.RW_il0124_01
set_option Elab.async false
section
open PySem PySem.W PySem.W.X PyProof.Rows PySem.Calls
set_option maxRecDepth 100000
namespace Mine
noncomputable abbrev PW : Program := PySem.Challenge.rw_il0124_01.prog
-- the program's defs, by their place in the text
noncomputable def bodyOf (n : Nat) : List Stmt := match PW.main.body.drop n with | .FunctionDef _ _ b _ _ _ _ _ _ _ :: _ => b | _ => []
noncomputable def scopeOf (n : Nat) : Scope := match PW.main.body.drop n with | .FunctionDef _ _ _ _ _ _ s _ _ _ :: _ => s | _ => default
noncomputable def parsOf (n : Nat) : Arguments := match PW.main.body.drop n with | .FunctionDef _ p _ _ _ _ _ _ _ _ :: _ => p | _ => default
-- the classes' defs, by their place in the text
noncomputable def cbody (n m : Nat) : List Stmt := match PW.main.body.drop n with | .ClassDef _ _ _ b _ _ _ _ _ _ _ :: _ => (match b.drop m with | .FunctionDef _ _ b _ _ _ _ _ _ _ :: _ => b | _ => []) | _ => []
noncomputable def cscope (n m : Nat) : Scope := match PW.main.body.drop n with | .ClassDef _ _ _ b _ _ _ _ _ _ _ :: _ => (match b.drop m with | .FunctionDef _ _ _ _ _ _ s _ _ _ :: _ => s | _ => default) | _ => default
noncomputable def cpars (n m : Nat) : Arguments := match PW.main.body.drop n with | .ClassDef _ _ _ b _ _ _ _ _ _ _ :: _ => (match b.drop m with | .FunctionDef _ p _ _ _ _ _ _ _ _ :: _ => p | _ => default) | _ => default
noncomputable def docAt (b : List Stmt) (t : Tok) : Value := match docOf b with | some s => .str s t | none => .none
noncomputable def o4 : Obj := { cls := Value.type "module", dict := some 0 }
noncomputable def o2 : Obj := { cls := Value.none, data := Data.dict #[] }
noncomputable def o3 (P : Params) : Obj := { cls := Value.type "dict", data := Data.dict #[{ hash := PyData.keyHash P (⟨#[95, 95, 110, 97, 109, 101, 95, 95]⟩), key := Value.str (⟨#[95, 95, 110, 97, 109, 101, 95, 95]⟩) 165, val := Value.str (⟨#[108, 97, 119, 95, 105, 108, 48, 49, 50, 52, 95, 48, 49]⟩) 422 }, { hash := PyData.keyHash P (⟨#[95, 95, 100, 111, 99, 95, 95]⟩), key := Value.str (⟨#[95, 95, 100, 111, 99, 95, 95]⟩) 166, val := Value.none }, { hash := PyData.keyHash P (⟨#[95, 95, 112, 97, 99, 107, 97, 103, 101, 95, 95]⟩), key := Value.str (⟨#[95, 95, 112, 97, 99, 107, 97, 103, 101, 95, 95]⟩) 167, val := Value.none }, { hash := PyData.keyHash P (⟨#[95, 95, 108, 111, 97, 100, 101, 114, 95, 95]⟩), key := Value.str (⟨#[95, 95, 108, 111, 97, 100, 101, 114, 95, 95]⟩) 168, val := Value.builtin "__main__.__loader__#opaque" }, { hash := PyData.keyHash P (⟨#[95, 95, 115, 112, 101, 99, 95, 95]⟩), key := Value.str (⟨#[95, 95, 115, 112, 101, 99, 95, 95]⟩) 169, val := Value.none }, { hash := PyData.keyHash P (⟨#[95, 95, 97, 110, 110, 111, 116, 97, 116, 105, 111, 110, 115, 95, 95]⟩), key := Value.str (⟨#[95, 95, 97, 110, 110, 111, 116, 97, 116, 105, 111, 110, 115, 95, 95]⟩) 170, val := Value.ref 6 }, { hash := PyData.keyHash P (⟨#[95, 95, 98, 117, 105, 108, 116, 105, 110, 115, 95, 95]⟩), key := Value.str (⟨#[95, 95, 98, 117, 105, 108, 116, 105, 110, 115, 95, 95]⟩) 171, val := Value.ref 4 }, { hash := PyData.keyHash P (⟨#[95, 95, 102, 105, 108, 101, 95, 95]⟩), key := Value.str (⟨#[95, 95, 102, 105, 108, 101, 95, 95]⟩) 173, val := Value.str (⟨#[47, 99, 108, 97, 105, 109, 47, 99, 117, 116, 46, 112, 121]⟩) 172 }, { hash := PyData.keyHash P (⟨#[95, 95, 99, 97, 99, 104, 101, 100, 95, 95]⟩), key := Value.str (⟨#[95, 95, 99, 97, 99, 104, 101, 100, 95, 95]⟩) 174, val := Value.none }, { hash := PyData.keyHash P (⟨#[95, 119, 97, 108, 108]⟩), key := Value.str (⟨#[95, 119, 97, 108, 108]⟩) 193, val := Value.ref 21 }, { hash := PyData.keyHash P (⟨#[115, 101, 97, 114, 99, 104, 95, 114, 101, 118, 101, 114, 115, 101]⟩), key := Value.str (⟨#[115, 101, 97, 114, 99, 104, 95, 114, 101, 118, 101, 114, 115, 101]⟩) 209, val := Value.ref 28 }, { hash := PyData.keyHash P (⟨#[95, 116, 117, 112, 108, 101, 103, 101, 116, 116, 101, 114]⟩), key := Value.str (⟨#[95, 116, 117, 112, 108, 101, 103, 101, 116, 116, 101, 114]⟩) 268, val := Value.ref 67 }, { hash := PyData.keyHash P (⟨#[80, 97, 105, 114]⟩), key := Value.str (⟨#[80, 97, 105, 114]⟩) 383, val := Value.ref 162 }, { hash := PyData.keyHash P (⟨#[95, 108, 97, 119, 95, 116, 101, 120, 116]⟩), key := Value.str (⟨#[95, 108, 97, 119, 95, 116, 101, 120, 116]⟩) 429, val := Value.ref 170 }, { hash := PyData.keyHash P (⟨#[95, 108, 97, 119, 95, 104, 105, 116]⟩), key := Value.str (⟨#[95, 108, 97, 119, 95, 104, 105, 116]⟩) 440, val := Value.ref 177 }, { hash := PyData.keyHash P (⟨#[95, 108, 97, 119, 95, 115, 101, 97, 114, 99, 104]⟩), key := Value.str (⟨#[95, 108, 97, 119, 95, 115, 101, 97, 114, 99, 104]⟩) 452, val := Value.ref 185 }, { hash := PyData.keyHash P (⟨#[95, 108, 97, 119, 95, 112, 114, 111, 103]⟩), key := Value.str (⟨#[95, 108, 97, 119, 95, 112, 114, 111, 103]⟩) 459, val := Value.ref 192 }, { hash := PyData.keyHash P (⟨#[95, 108, 97, 119, 95, 115, 112, 97, 110, 115]⟩), key := Value.str (⟨#[95, 108, 97, 119, 95, 115, 112, 97, 110, 115]⟩) 471, val := Value.ref 199 }, { hash := PyData.keyHash P (⟨#[95, 108, 97, 119, 95, 108, 97, 115, 116]⟩), key := Value.str (⟨#[95, 108, 97, 119, 95, 108, 97, 115, 116]⟩) 481, val := Value.ref 206 }, { hash := PyData.keyHash P (⟨#[95, 108, 97, 119, 95, 116, 111, 108, 100]⟩), key := Value.str (⟨#[95, 108, 97, 119, 95, 116, 111, 108, 100]⟩) 492, val := Value.ref 213 }, { hash := PyData.keyHash P (⟨#[95, 108, 97, 119, 95, 100, 117, 101]⟩), key := Value.str (⟨#[95, 108, 97, 119, 95, 100, 117, 101]⟩) 498, val := Value.ref 218 }, { hash := PyData.keyHash P (⟨#[108, 97, 119]⟩), key := Value.str (⟨#[108, 97, 119]⟩) 507, val := Value.ref 225 }] 22 }
noncomputable def o27 : Obj := { cls := Value.type "code", data := Data.fields #[Value.str (⟨#[115, 101, 97, 114, 99, 104, 95, 114, 101, 118, 101, 114, 115, 101]⟩) 196, Value.str (⟨#[115, 101, 97, 114, 99, 104, 95, 114, 101, 118, 101, 114, 115, 101]⟩) 197, Value.str (⟨#[47, 99, 108, 97, 105, 109, 47, 99, 117, 116, 46, 112, 121]⟩) 198, Value.int 5 0, Value.int 3 0, Value.int 0 0, Value.int 0 0, Value.int 3 0, Value.ref 22, Value.bool true, Value.int 181 0, Value.ref 23, Value.none, Value.ref 24, Value.ref 25, Value.ref 26, Value.int 206 0, Value.int 5 0, Value.str (⟨#[47, 99, 108, 97, 105, 109, 47, 99, 117, 116, 46, 112, 121]⟩) 207] }
noncomputable def o28 : Obj := { cls := .type "function", data := .func (fnOf "search_reverse" "search_reverse" (parsOf 2) (bodyOf 2) (scopeOf 2) .none .none (docAt (bodyOf 2) 208) (.str "cpy313.idlelib.searchengine" 194) none (.ref 27) .none) }
noncomputable def o43 : Obj := { cls := Value.type "tuple", data := Data.seq #[Value.none] }
noncomputable def o49 : Obj := { cls := Value.type "code", data := Data.fields #[Value.str (⟨#[95, 95, 103, 101, 116, 95, 95]⟩) 233, Value.str (⟨#[95, 116, 117, 112, 108, 101, 103, 101, 116, 116, 101, 114, 46, 95, 95, 103, 101, 116, 95, 95]⟩) 234, Value.str (⟨#[47, 99, 108, 97, 105, 109, 47, 99, 117, 116, 46, 112, 121]⟩) 235, Value.int 34 0, Value.int 3 0, Value.int 0 0, Value.int 0 0, Value.int 3 0, Value.ref 44, Value.bool true, Value.int 181 0, Value.ref 45, Value.none, Value.ref 46, Value.ref 47, Value.ref 48, Value.int 239 0, Value.int 34 0, Value.str (⟨#[47, 99, 108, 97, 105, 109, 47, 99, 117, 116, 46, 112, 121]⟩) 240] }
noncomputable def o50 : Obj := { cls := .type "function", data := .func (fnOf "__get__" "_tuplegetter.__get__" (cpars 4 1) (cbody 4 1) (cscope 4 1) (.ref 43) .none .none (.str "cpy313.importlib.metadata._collections" 210) none (.ref 49) .none) }
noncomputable def o66 (P : Params) : Obj := { cls := Value.type "dict", data := Data.dict #[{ hash := PyData.keyHash P (⟨#[95, 95, 109, 111, 100, 117, 108, 101, 95, 95]⟩), key := Value.str (⟨#[95, 95, 109, 111, 100, 117, 108, 101, 95, 95]⟩) 219, val := Value.str (⟨#[99, 112, 121, 51, 49, 51, 46, 105, 109, 112, 111, 114, 116, 108, 105, 98, 46, 109, 101, 116, 97, 100, 97, 116, 97, 46, 95, 99, 111, 108, 108, 101, 99, 116, 105, 111, 110, 115]⟩) 210 }, { hash := PyData.keyHash P (⟨#[95, 95, 102, 105, 114, 115, 116, 108, 105, 110, 101, 110, 111, 95, 95]⟩), key := Value.str (⟨#[95, 95, 102, 105, 114, 115, 116, 108, 105, 110, 101, 110, 111, 95, 95]⟩) 223, val := Value.int 28 222 }, { hash := PyData.keyHash P (⟨#[95, 95, 105, 110, 105, 116, 95, 95]⟩), key := Value.str (⟨#[95, 95, 105, 110, 105, 116, 95, 95]⟩) 232, val := Value.ref 42 }, { hash := PyData.keyHash P (⟨#[95, 95, 103, 101, 116, 95, 95]⟩), key := Value.str (⟨#[95, 95, 103, 101, 116, 95, 95]⟩) 241, val := Value.ref 50 }, { hash := PyData.keyHash P (⟨#[95, 95, 115, 101, 116, 95, 95]⟩), key := Value.str (⟨#[95, 95, 115, 101, 116, 95, 95]⟩) 250, val := Value.ref 57 }, { hash := PyData.keyHash P (⟨#[95, 95, 100, 101, 108, 101, 116, 101, 95, 95]⟩), key := Value.str (⟨#[95, 95, 100, 101, 108, 101, 116, 101, 95, 95]⟩) 258, val := Value.ref 64 }, { hash := PyData.keyHash P (⟨#[95, 95, 115, 116, 97, 116, 105, 99, 95, 97, 116, 116, 114, 105, 98, 117, 116, 101, 115, 95, 95]⟩), key := Value.str (⟨#[95, 95, 115, 116, 97, 116, 105, 99, 95, 97, 116, 116, 114, 105, 98, 117, 116, 101, 115, 95, 95]⟩) 261, val := Value.ref 65 }, { hash := PyData.keyHash P (⟨#[95, 95, 100, 105, 99, 116, 95, 95]⟩), key := Value.str (⟨#[95, 95, 100, 105, 99, 116, 95, 95]⟩) 263, val := Value.ref 68 }, { hash := PyData.keyHash P (⟨#[95, 95, 119, 101, 97, 107, 114, 101, 102, 95, 95]⟩), key := Value.str (⟨#[95, 95, 119, 101, 97, 107, 114, 101, 102, 95, 95]⟩) 265, val := Value.ref 69 }, { hash := PyData.keyHash P (⟨#[95, 95, 100, 111, 99, 95, 95]⟩), key := Value.str (⟨#[95, 95, 100, 111, 99, 95, 95]⟩) 266, val := Value.none }] 4 }
noncomputable def o67 : Obj := { cls := Value.type "type", data := Data.cls { name := ⟨#[95, 116, 117, 112, 108, 101, 103, 101, 116, 116, 101, 114]⟩, bases := [Value.type "object"], mro := [Value.ref 67, Value.type "object"], ns := 66, qualname := ⟨#[95, 116, 117, 112, 108, 101, 103, 101, 116, 116, 101, 114]⟩ }, slots := #[none, none, some (Value.str (⟨#[95, 116, 117, 112, 108, 101, 103, 101, 116, 116, 101, 114]⟩) 212), some (Value.str (⟨#[95, 116, 117, 112, 108, 101, 103, 101, 116, 116, 101, 114]⟩) 220), some (Value.builtin "object.__new__"), some (Value.bool true)] }
noncomputable def o88 : Obj := { cls := Value.type "code", data := Data.fields #[Value.str (⟨#[95, 95, 110, 101, 119, 95, 95]⟩) 289, Value.str (⟨#[80, 97, 105, 114, 46, 95, 95, 110, 101, 119, 95, 95]⟩) 290, Value.str (⟨#[47, 99, 108, 97, 105, 109, 47, 99, 117, 116, 46, 112, 121]⟩) 291, Value.int 52 0, Value.int 3 0, Value.int 0 0, Value.int 0 0, Value.int 3 0, Value.ref 83, Value.bool true, Value.int 181 0, Value.ref 84, Value.none, Value.ref 85, Value.ref 86, Value.ref 87, Value.int 295 0, Value.int 52 0, Value.str (⟨#[47, 99, 108, 97, 105, 109, 47, 99, 117, 116, 46, 112, 121]⟩) 296] }
noncomputable def o89 : Obj := { cls := .type "function", data := .func (fnOf "__new__" "Pair.__new__" (cpars 5 4) (cbody 5 4) (cscope 5 4) .none .none (.str "Create new instance of Pair(name, value)" 297) (.str "cpy313.importlib.metadata._collections" 210) none (.ref 88) .none) }
noncomputable def o130 (P : Params) : Obj := { cls := Value.type "dict", data := Data.dict #[{ hash := PyData.keyHash P (⟨#[105, 110, 100, 101, 120]⟩), key := Value.str (⟨#[105, 110, 100, 101, 120]⟩) 365, val := Value.int 0 359 }, { hash := PyData.keyHash P (⟨#[95, 95, 100, 111, 99, 95, 95]⟩), key := Value.str (⟨#[95, 95, 100, 111, 99, 95, 95]⟩) 367, val := Value.str (⟨#[65, 108, 105, 97, 115, 32, 102, 111, 114, 32, 102, 105, 101, 108, 100, 32, 110, 117, 109, 98, 101, 114, 32, 48]⟩) 360 }] 2 }
noncomputable def o131 : Obj := { cls := Value.ref 67, dict := some 130 }
noncomputable def o133 (P : Params) : Obj := { cls := Value.type "dict", data := Data.dict #[{ hash := PyData.keyHash P (⟨#[105, 110, 100, 101, 120]⟩), key := Value.str (⟨#[105, 110, 100, 101, 120]⟩) 375, val := Value.int 1 369 }, { hash := PyData.keyHash P (⟨#[95, 95, 100, 111, 99, 95, 95]⟩), key := Value.str (⟨#[95, 95, 100, 111, 99, 95, 95]⟩) 377, val := Value.str (⟨#[65, 108, 105, 97, 115, 32, 102, 111, 114, 32, 102, 105, 101, 108, 100, 32, 110, 117, 109, 98, 101, 114, 32, 49]⟩) 370 }] 2 }
noncomputable def o134 : Obj := { cls := Value.ref 67, dict := some 133 }
noncomputable def o138 (P : Params) : Obj := { cls := Value.type "dict", data := Data.dict #[{ hash := PyData.keyHash P (⟨#[95, 95, 109, 111, 100, 117, 108, 101, 95, 95]⟩), key := Value.str (⟨#[95, 95, 109, 111, 100, 117, 108, 101, 95, 95]⟩) 276, val := Value.str (⟨#[99, 112, 121, 51, 49, 51, 46, 105, 109, 112, 111, 114, 116, 108, 105, 98, 46, 109, 101, 116, 97, 100, 97, 116, 97, 46, 95, 99, 111, 108, 108, 101, 99, 116, 105, 111, 110, 115]⟩) 210 }, { hash := PyData.keyHash P (⟨#[95, 95, 102, 105, 114, 115, 116, 108, 105, 110, 101, 110, 111, 95, 95]⟩), key := Value.str (⟨#[95, 95, 102, 105, 114, 115, 116, 108, 105, 110, 101, 110, 111, 95, 95]⟩) 280, val := Value.int 46 279 }, { hash := PyData.keyHash P (⟨#[95, 95, 100, 111, 99, 95, 95]⟩), key := Value.str (⟨#[95, 95, 100, 111, 99, 95, 95]⟩) 282, val := Value.str (⟨#[80, 97, 105, 114, 40, 110, 97, 109, 101, 44, 32, 118, 97, 108, 117, 101, 41]⟩) 281 }, { hash := PyData.keyHash P (⟨#[95, 95, 115, 108, 111, 116, 115, 95, 95]⟩), key := Value.str (⟨#[95, 95, 115, 108, 111, 116, 115, 95, 95]⟩) 284, val := Value.ref 80 }, { hash := PyData.keyHash P (⟨#[95, 102, 105, 101, 108, 100, 115]⟩), key := Value.str (⟨#[95, 102, 105, 101, 108, 100, 115]⟩) 287, val := Value.ref 81 }, { hash := PyData.keyHash P (⟨#[95, 102, 105, 101, 108, 100, 95, 100, 101, 102, 97, 117, 108, 116, 115]⟩), key := Value.str (⟨#[95, 102, 105, 101, 108, 100, 95, 100, 101, 102, 97, 117, 108, 116, 115]⟩) 288, val := Value.ref 82 }, { hash := PyData.keyHash P (⟨#[95, 95, 110, 101, 119, 95, 95]⟩), key := Value.str (⟨#[95, 95, 110, 101, 119, 95, 95]⟩) 298, val := Value.ref 140 }, { hash := PyData.keyHash P (⟨#[95, 109, 97, 107, 101]⟩), key := Value.str (⟨#[95, 109, 97, 107, 101]⟩) 320, val := Value.ref 98 }, { hash := PyData.keyHash P (⟨#[95, 114, 101, 112, 108, 97, 99, 101]⟩), key := Value.str (⟨#[95, 114, 101, 112, 108, 97, 99, 101]⟩) 331, val := Value.ref 107 }, { hash := PyData.keyHash P (⟨#[95, 95, 114, 101, 112, 108, 97, 99, 101, 95, 95]⟩), key := Value.str (⟨#[95, 95, 114, 101, 112, 108, 97, 99, 101, 95, 95]⟩) 332, val := Value.ref 107 }, { hash := PyData.keyHash P (⟨#[95, 95, 114, 101, 112, 114, 95, 95]⟩), key := Value.str (⟨#[95, 95, 114, 101, 112, 114, 95, 95]⟩) 340, val := Value.ref 114 }, { hash := PyData.keyHash P (⟨#[95, 97, 115, 100, 105, 99, 116]⟩), key := Value.str (⟨#[95, 97, 115, 100, 105, 99, 116]⟩) 347, val := Value.ref 121 }, { hash := PyData.keyHash P (⟨#[95, 95, 103, 101, 116, 110, 101, 119, 97, 114, 103, 115, 95, 95]⟩), key := Value.str (⟨#[95, 95, 103, 101, 116, 110, 101, 119, 97, 114, 103, 115, 95, 95]⟩) 355, val := Value.ref 128 }, { hash := PyData.keyHash P (⟨#[95, 95, 109, 97, 116, 99, 104, 95, 97, 114, 103, 115, 95, 95]⟩), key := Value.str (⟨#[95, 95, 109, 97, 116, 99, 104, 95, 97, 114, 103, 115, 95, 95]⟩) 358, val := Value.ref 129 }, { hash := PyData.keyHash P (⟨#[110, 97, 109, 101]⟩), key := Value.str (⟨#[110, 97, 109, 101]⟩) 368, val := Value.ref 131 }, { hash := PyData.keyHash P (⟨#[118, 97, 108, 117, 101]⟩), key := Value.str (⟨#[118, 97, 108, 117, 101]⟩) 378, val := Value.ref 134 }, { hash := PyData.keyHash P (⟨#[95, 95, 115, 116, 97, 116, 105, 99, 95, 97, 116, 116, 114, 105, 98, 117, 116, 101, 115, 95, 95]⟩), key := Value.str (⟨#[95, 95, 115, 116, 97, 116, 105, 99, 95, 97, 116, 116, 114, 105, 98, 117, 116, 101, 115, 95, 95]⟩) 379, val := Value.ref 136 }] 2 }
noncomputable def o139 : Obj := { cls := Value.type "type", data := Data.cls { name := ⟨#[80, 97, 105, 114]⟩, bases := [Value.type "tuple"], mro := [Value.ref 139, Value.type "tuple", Value.type "object"], ns := 138, qualname := ⟨#[80, 97, 105, 114]⟩, hasDict := false, subclasses := [Value.ref 162] }, slots := #[some (Value.ref 72), none, some (Value.str (⟨#[80, 97, 105, 114]⟩) 269), some (Value.str (⟨#[80, 97, 105, 114]⟩) 277), some Value.none, some (Value.bool false)] }
noncomputable def o140 : Obj := { cls := Value.type "staticmethod", data := Data.fields #[Value.ref 89] }
noncomputable def o155 : Obj := { cls := Value.type "code", data := Data.fields #[Value.str (⟨#[112, 97, 114, 115, 101]⟩) 396, Value.str (⟨#[80, 97, 105, 114, 46, 112, 97, 114, 115, 101]⟩) 397, Value.str (⟨#[47, 99, 108, 97, 105, 109, 47, 99, 117, 116, 46, 112, 121]⟩) 398, Value.int 90 0, Value.int 2 0, Value.int 0 0, Value.int 0 0, Value.int 3 0, Value.ref 150, Value.bool true, Value.int 181 0, Value.ref 151, Value.none, Value.ref 152, Value.ref 153, Value.ref 154, Value.int 401 0, Value.int 90 0, Value.str (⟨#[47, 99, 108, 97, 105, 109, 47, 99, 117, 116, 46, 112, 121]⟩) 402] }
noncomputable def o156 : Obj := { cls := .type "function", data := .func (fnOf "parse" "Pair.parse" (cpars 6 0) (cbody 6 0) (cscope 6 0) .none .none .none (.str "cpy313.importlib.metadata._collections" 210) (some 159) (.ref 155) .none) }
noncomputable def o158 : Obj := { cls := Value.type "classmethod", dict := some 157, data := Data.fields #[Value.ref 156, Value.bool false] }
noncomputable def o161 (P : Params) : Obj := { cls := Value.type "dict", data := Data.dict #[{ hash := PyData.keyHash P (⟨#[95, 95, 109, 111, 100, 117, 108, 101, 95, 95]⟩), key := Value.str (⟨#[95, 95, 109, 111, 100, 117, 108, 101, 95, 95]⟩) 391, val := Value.str (⟨#[99, 112, 121, 51, 49, 51, 46, 105, 109, 112, 111, 114, 116, 108, 105, 98, 46, 109, 101, 116, 97, 100, 97, 116, 97, 46, 95, 99, 111, 108, 108, 101, 99, 116, 105, 111, 110, 115]⟩) 210 }, { hash := PyData.keyHash P (⟨#[95, 95, 102, 105, 114, 115, 116, 108, 105, 110, 101, 110, 111, 95, 95]⟩), key := Value.str (⟨#[95, 95, 102, 105, 114, 115, 116, 108, 105, 110, 101, 110, 111, 95, 95]⟩) 395, val := Value.int 88 394 }, { hash := PyData.keyHash P (⟨#[112, 97, 114, 115, 101]⟩), key := Value.str (⟨#[112, 97, 114, 115, 101]⟩) 415, val := Value.ref 158 }, { hash := PyData.keyHash P (⟨#[95, 95, 115, 116, 97, 116, 105, 99, 95, 97, 116, 116, 114, 105, 98, 117, 116, 101, 115, 95, 95]⟩), key := Value.str (⟨#[95, 95, 115, 116, 97, 116, 105, 99, 95, 97, 116, 116, 114, 105, 98, 117, 116, 101, 115, 95, 95]⟩) 416, val := Value.ref 160 }, { hash := PyData.keyHash P (⟨#[95, 95, 100, 105, 99, 116, 95, 95]⟩), key := Value.str (⟨#[95, 95, 100, 105, 99, 116, 95, 95]⟩) 418, val := Value.ref 163 }, { hash := PyData.keyHash P (⟨#[95, 95, 100, 111, 99, 95, 95]⟩), key := Value.str (⟨#[95, 95, 100, 111, 99, 95, 95]⟩) 419, val := Value.none }] 3 }
noncomputable def o162 : Obj := { cls := Value.type "type", data := Data.cls { name := ⟨#[80, 97, 105, 114]⟩, bases := [Value.ref 139], mro := [Value.ref 162, Value.ref 139, Value.type "tuple", Value.type "object"], ns := 161, qualname := ⟨#[80, 97, 105, 114]⟩ }, slots := #[some (Value.ref 143), none, some (Value.str (⟨#[80, 97, 105, 114]⟩) 384), some (Value.str (⟨#[80, 97, 105, 114]⟩) 392), some Value.none, some (Value.bool false)] }
noncomputable def o169 : Obj := { cls := Value.type "code", data := Data.fields #[Value.str (⟨#[95, 108, 97, 119, 95, 116, 101, 120, 116]⟩) 424, Value.str (⟨#[95, 108, 97, 119, 95, 116, 101, 120, 116]⟩) 425, Value.str (⟨#[47, 99, 108, 97, 105, 109, 47, 99, 117, 116, 46, 112, 121]⟩) 426, Value.int 94 0, Value.int 1 0, Value.int 0 0, Value.int 0 0, Value.int 3 0, Value.ref 166, Value.bool true, Value.int 181 0, Value.ref 167, Value.none, Value.none, Value.none, Value.ref 168, Value.int 427 0, Value.int 94 0, Value.str (⟨#[47, 99, 108, 97, 105, 109, 47, 99, 117, 116, 46, 112, 121]⟩) 428] }
noncomputable def o170 : Obj := { cls := .type "function", data := .func (fnOf "_law_text" "_law_text" (parsOf 8) (bodyOf 8) (scopeOf 8) .none .none .none (.str "law_il0124_01" 422) none (.ref 169) .none) }
noncomputable def o176 : Obj := { cls := Value.type "code", data := Data.fields #[Value.str (⟨#[95, 108, 97, 119, 95, 104, 105, 116]⟩) 430, Value.str (⟨#[95, 108, 97, 119, 95, 104, 105, 116]⟩) 431, Value.str (⟨#[47, 99, 108, 97, 105, 109, 47, 99, 117, 116, 46, 112, 121]⟩) 432, Value.int 96 0, Value.int 2 0, Value.int 0 0, Value.int 0 0, Value.int 3 0, Value.ref 171, Value.bool true, Value.int 181 0, Value.ref 172, Value.none, Value.ref 173, Value.ref 174, Value.ref 175, Value.int 438 0, Value.int 96 0, Value.str (⟨#[47, 99, 108, 97, 105, 109, 47, 99, 117, 116, 46, 112, 121]⟩) 439] }
noncomputable def o177 : Obj := { cls := .type "function", data := .func (fnOf "_law_hit" "_law_hit" (parsOf 9) (bodyOf 9) (scopeOf 9) .none .none .none (.str "law_il0124_01" 422) none (.ref 176) .none) }
noncomputable def o178 : Obj := { cls := Value.type "tuple", data := Data.seq #[Value.int 0 441] }
noncomputable def o184 : Obj := { cls := Value.type "code", data := Data.fields #[Value.str (⟨#[95, 108, 97, 119, 95, 115, 101, 97, 114, 99, 104]⟩) 442, Value.str (⟨#[95, 108, 97, 119, 95, 115, 101, 97, 114, 99, 104]⟩) 443, Value.str (⟨#[47, 99, 108, 97, 105, 109, 47, 99, 117, 116, 46, 112, 121]⟩) 444, Value.int 100 0, Value.int 2 0, Value.int 0 0, Value.int 0 0, Value.int 3 0, Value.ref 179, Value.bool true, Value.int 181 0, Value.ref 180, Value.none, Value.ref 181, Value.ref 182, Value.ref 183, Value.int 450 0, Value.int 100 0, Value.str (⟨#[47, 99, 108, 97, 105, 109, 47, 99, 117, 116, 46, 112, 121]⟩) 451] }
noncomputable def o185 : Obj := { cls := .type "function", data := .func (fnOf "_law_search" "_law_search" (parsOf 10) (bodyOf 10) (scopeOf 10) (.ref 178) .none .none (.str "law_il0124_01" 422) none (.ref 184) .none) }
noncomputable def o191 : Obj := { cls := Value.type "code", data := Data.fields #[Value.str (⟨#[95, 108, 97, 119, 95, 112, 114, 111, 103]⟩) 453, Value.str (⟨#[95, 108, 97, 119, 95, 112, 114, 111, 103]⟩) 454, Value.str (⟨#[47, 99, 108, 97, 105, 109, 47, 99, 117, 116, 46, 112, 121]⟩) 455, Value.int 111 0, Value.int 0 0, Value.int 0 0, Value.int 0 0, Value.int 3 0, Value.ref 186, Value.bool true, Value.int 181 0, Value.ref 187, Value.none, Value.ref 188, Value.ref 189, Value.ref 190, Value.int 457 0, Value.int 111 0, Value.str (⟨#[47, 99, 108, 97, 105, 109, 47, 99, 117, 116, 46, 112, 121]⟩) 458] }
noncomputable def o192 : Obj := { cls := .type "function", data := .func (fnOf "_law_prog" "_law_prog" (parsOf 11) (bodyOf 11) (scopeOf 11) .none .none .none (.str "law_il0124_01" 422) none (.ref 191) .none) }
noncomputable def o198 : Obj := { cls := Value.type "code", data := Data.fields #[Value.str (⟨#[95, 108, 97, 119, 95, 115, 112, 97, 110, 115]⟩) 460, Value.str (⟨#[95, 108, 97, 119, 95, 115, 112, 97, 110, 115]⟩) 461, Value.str (⟨#[47, 99, 108, 97, 105, 109, 47, 99, 117, 116, 46, 112, 121]⟩) 462, Value.int 115 0, Value.int 1 0, Value.int 0 0, Value.int 0 0, Value.int 3 0, Value.ref 193, Value.bool true, Value.int 181 0, Value.ref 194, Value.none, Value.ref 195, Value.ref 196, Value.ref 197, Value.int 469 0, Value.int 115 0, Value.str (⟨#[47, 99, 108, 97, 105, 109, 47, 99, 117, 116, 46, 112, 121]⟩) 470] }
noncomputable def o199 : Obj := { cls := .type "function", data := .func (fnOf "_law_spans" "_law_spans" (parsOf 12) (bodyOf 12) (scopeOf 12) .none .none .none (.str "law_il0124_01" 422) none (.ref 198) .none) }
noncomputable def o205 : Obj := { cls := Value.type "code", data := Data.fields #[Value.str (⟨#[95, 108, 97, 119, 95, 108, 97, 115, 116]⟩) 472, Value.str (⟨#[95, 108, 97, 119, 95, 108, 97, 115, 116]⟩) 473, Value.str (⟨#[47, 99, 108, 97, 105, 109, 47, 99, 117, 116, 46, 112, 121]⟩) 474, Value.int 127 0, Value.int 2 0, Value.int 0 0, Value.int 0 0, Value.int 3 0, Value.ref 200, Value.bool true, Value.int 181 0, Value.ref 201, Value.none, Value.ref 202, Value.ref 203, Value.ref 204, Value.int 479 0, Value.int 127 0, Value.str (⟨#[47, 99, 108, 97, 105, 109, 47, 99, 117, 116, 46, 112, 121]⟩) 480] }
noncomputable def o206 : Obj := { cls := .type "function", data := .func (fnOf "_law_last" "_law_last" (parsOf 13) (bodyOf 13) (scopeOf 13) .none .none .none (.str "law_il0124_01" 422) none (.ref 205) .none) }
noncomputable def o212 : Obj := { cls := Value.type "code", data := Data.fields #[Value.str (⟨#[95, 108, 97, 119, 95, 116, 111, 108, 100]⟩) 482, Value.str (⟨#[95, 108, 97, 119, 95, 116, 111, 108, 100]⟩) 483, Value.str (⟨#[47, 99, 108, 97, 105, 109, 47, 99, 117, 116, 46, 112, 121]⟩) 484, Value.int 133 0, Value.int 2 0, Value.int 0 0, Value.int 0 0, Value.int 3 0, Value.ref 207, Value.bool true, Value.int 181 0, Value.ref 208, Value.none, Value.ref 209, Value.ref 210, Value.ref 211, Value.int 490 0, Value.int 133 0, Value.str (⟨#[47, 99, 108, 97, 105, 109, 47, 99, 117, 116, 46, 112, 121]⟩) 491] }
noncomputable def o213 : Obj := { cls := .type "function", data := .func (fnOf "_law_told" "_law_told" (parsOf 14) (bodyOf 14) (scopeOf 14) .none .none .none (.str "law_il0124_01" 422) none (.ref 212) .none) }
noncomputable def o217 : Obj := { cls := Value.type "code", data := Data.fields #[Value.str (⟨#[95, 108, 97, 119, 95, 100, 117, 101]⟩) 493, Value.str (⟨#[95, 108, 97, 119, 95, 100, 117, 101]⟩) 494, Value.str (⟨#[47, 99, 108, 97, 105, 109, 47, 99, 117, 116, 46, 112, 121]⟩) 495, Value.int 142 0, Value.int 2 0, Value.int 0 0, Value.int 0 0, Value.int 3 0, Value.ref 214, Value.bool true, Value.int 181 0, Value.ref 215, Value.none, Value.none, Value.none, Value.ref 216, Value.int 496 0, Value.int 142 0, Value.str (⟨#[47, 99, 108, 97, 105, 109, 47, 99, 117, 116, 46, 112, 121]⟩) 497] }
noncomputable def o218 : Obj := { cls := .type "function", data := .func (fnOf "_law_due" "_law_due" (parsOf 15) (bodyOf 15) (scopeOf 15) .none .none .none (.str "law_il0124_01" 422) none (.ref 217) .none) }
noncomputable def o224 : Obj := { cls := Value.type "code", data := Data.fields #[Value.str (⟨#[108, 97, 119]⟩) 499, Value.str (⟨#[108, 97, 119]⟩) 500, Value.str (⟨#[47, 99, 108, 97, 105, 109, 47, 99, 117, 116, 46, 112, 121]⟩) 501, Value.int 144 0, Value.int 1 0, Value.int 0 0, Value.int 0 0, Value.int 3 0, Value.ref 219, Value.bool true, Value.int 181 0, Value.ref 220, Value.none, Value.ref 221, Value.ref 222, Value.ref 223, Value.int 505 0, Value.int 144 0, Value.str (⟨#[47, 99, 108, 97, 105, 109, 47, 99, 117, 116, 46, 112, 121]⟩) 506] }
noncomputable def o225 : Obj := { cls := .type "function", data := .func (fnOf "law" "law" (parsOf 16) (bodyOf 16) (scopeOf 16) .none .none .none (.str "law_il0124_01" 422) none (.ref 224) .none) }
noncomputable abbrev noTab : Obj := { cls := .none, data := .fields #[] }
noncomputable def Kpa (P : Params) : Frag := (nat_lit 2, o2) :: (nat_lit 3, o3 P) :: (nat_lit 4, o4) :: (nat_lit 27, o27) :: (nat_lit 28, o28) :: (nat_lit 43, o43) :: []
noncomputable def Kpb (P : Params) : Frag := (nat_lit 49, o49) :: (nat_lit 50, o50) :: (nat_lit 66, o66 P) :: (nat_lit 67, o67) :: (nat_lit 88, o88) :: (nat_lit 89, o89) :: []
noncomputable def Kpc (P : Params) : Frag := (nat_lit 130, o130 P) :: (nat_lit 131, o131) :: (nat_lit 133, o133 P) :: (nat_lit 134, o134) :: (nat_lit 138, o138 P) :: (nat_lit 139, o139) :: []
noncomputable def Kpd (P : Params) : Frag := (nat_lit 140, o140) :: (nat_lit 155, o155) :: (nat_lit 156, o156) :: (nat_lit 158, o158) :: (nat_lit 161, o161 P) :: (nat_lit 162, o162) :: []
noncomputable def Kpe (P : Params) : Frag := (nat_lit 169, o169) :: (nat_lit 170, o170) :: (nat_lit 176, o176) :: (nat_lit 177, o177) :: (nat_lit 178, o178) :: (nat_lit 184, o184) :: []
noncomputable def Kpf (P : Params) : Frag := (nat_lit 185, o185) :: (nat_lit 191, o191) :: (nat_lit 192, o192) :: (nat_lit 198, o198) :: (nat_lit 199, o199) :: (nat_lit 205, o205) :: []
noncomputable def Kpg (P : Params) : Frag := (nat_lit 206, o206) :: (nat_lit 212, o212) :: (nat_lit 213, o213) :: (nat_lit 217, o217) :: (nat_lit 218, o218) :: (nat_lit 224, o224) :: []
noncomputable def Kph (P : Params) : Frag := (nat_lit 225, o225) :: []
-- the written objects that the proof reads
noncomputable def K (P : Params) : Frag := Kpa P ++ Kpb P ++ Kpc P ++ Kpd P ++ Kpe P ++ Kpf P ++ Kpg P ++ Kph P
-- with the hits' empty code table
noncomputable def K2 (P : Params) : Frag := (nat_lit 2, o2) :: (nat_lit 3, o3 P) :: (nat_lit 4, o4) :: (nat_lit 27, o27) :: (nat_lit 28, o28) :: (nat_lit 43, o43) :: (nat_lit 49, o49) :: (nat_lit 50, o50) :: (nat_lit 66, o66 P) :: (nat_lit 67, o67) :: (nat_lit 88, o88) :: (nat_lit 89, o89) :: (nat_lit 130, o130 P) :: (nat_lit 131, o131) :: (nat_lit 133, o133 P) :: (nat_lit 134, o134) :: (nat_lit 138, o138 P) :: (nat_lit 139, o139) :: (nat_lit 140, o140) :: (nat_lit 155, o155) :: (nat_lit 156, o156) :: (nat_lit 158, o158) :: (nat_lit 161, o161 P) :: (nat_lit 162, o162) :: (nat_lit 169, o169) :: (nat_lit 170, o170) :: (nat_lit 172, noTab) :: (nat_lit 176, o176) :: (nat_lit 177, o177) :: (nat_lit 178, o178) :: (nat_lit 184, o184) :: (nat_lit 185, o185) :: (nat_lit 191, o191) :: (nat_lit 192, o192) :: (nat_lit 198, o198) :: (nat_lit 199, o199) :: (nat_lit 205, o205) :: (nat_lit 206, o206) :: (nat_lit 212, o212) :: (nat_lit 213, o213) :: (nat_lit 217, o217) :: (nat_lit 218, o218) :: (nat_lit 224, o224) :: (nat_lit 225, o225) :: []
-- with the makers' empty code table
noncomputable def K3 (P : Params) : Frag := (nat_lit 2, o2) :: (nat_lit 3, o3 P) :: (nat_lit 4, o4) :: (nat_lit 27, o27) :: (nat_lit 28, o28) :: (nat_lit 43, o43) :: (nat_lit 49, o49) :: (nat_lit 50, o50) :: (nat_lit 66, o66 P) :: (nat_lit 67, o67) :: (nat_lit 88, o88) :: (nat_lit 89, o89) :: (nat_lit 130, o130 P) :: (nat_lit 131, o131) :: (nat_lit 133, o133 P) :: (nat_lit 134, o134) :: (nat_lit 138, o138 P) :: (nat_lit 139, o139) :: (nat_lit 140, o140) :: (nat_lit 155, o155) :: (nat_lit 156, o156) :: (nat_lit 158, o158) :: (nat_lit 161, o161 P) :: (nat_lit 162, o162) :: (nat_lit 169, o169) :: (nat_lit 170, o170) :: (nat_lit 176, o176) :: (nat_lit 177, o177) :: (nat_lit 178, o178) :: (nat_lit 184, o184) :: (nat_lit 185, o185) :: (nat_lit 187, noTab) :: (nat_lit 191, o191) :: (nat_lit 192, o192) :: (nat_lit 198, o198) :: (nat_lit 199, o199) :: (nat_lit 205, o205) :: (nat_lit 206, o206) :: (nat_lit 212, o212) :: (nat_lit 213, o213) :: (nat_lit 217, o217) :: (nat_lit 218, o218) :: (nat_lit 224, o224) :: (nat_lit 225, o225) :: []
noncomputable def KA : List Addr := nat_lit 2 :: nat_lit 3 :: nat_lit 4 :: nat_lit 27 :: nat_lit 28 :: nat_lit 43 :: nat_lit 49 :: nat_lit 50 :: nat_lit 66 :: nat_lit 67 :: nat_lit 88 :: nat_lit 89 :: nat_lit 130 :: nat_lit 131 :: nat_lit 133 :: nat_lit 134 :: nat_lit 138 :: nat_lit 139 :: nat_lit 140 :: nat_lit 155 :: nat_lit 156 :: nat_lit 158 :: nat_lit 161 :: nat_lit 162 :: nat_lit 169 :: nat_lit 170 :: nat_lit 176 :: nat_lit 177 :: nat_lit 178 :: nat_lit 184 :: nat_lit 185 :: nat_lit 191 :: nat_lit 192 :: nat_lit 198 :: nat_lit 199 :: nat_lit 205 :: nat_lit 206 :: nat_lit 212 :: nat_lit 213 :: nat_lit 217 :: nat_lit 218 :: nat_lit 224 :: nat_lit 225 :: []
end Mine

end
section
open PySem PySem.W PySem.W.X PyProof.Rows
namespace Mine
-- the claim's caller stands somewhere on the stack
noncomputable def Called (Γ : Ctx) : Prop := (Γ.code.isCaller || Γ.below.any fun x => x.1.isCaller) = true
-- as wpAny, but from the contexts alone that the claim's caller stands under
noncomputable def wpC {α : Type} (M : Model) (A : Around) (t : Sem α) (Q : α → Shared → Prop) (E : Value → Shared → Prop) (s : Shared) : Prop :=
  ∀ Γ p, Γ.In A → Called Γ → Sem.wp M Γ t (fun a _ s' => Q a s') (fun e _ s' => E e s') p s
noncomputable def codeC (M : Model) (A : Around) (c : Code) (R : Result → Shared → Prop) (s : Shared) : Prop :=
  ∀ Γ p, Γ.code = c → Γ.Below A → (Γ.below.any fun x => x.1.isCaller) = true → wpCode M Γ R p s
section
variable {α β : Type} {M : Model} {A : Around} {E : Value → Shared → Prop} {s : Shared}
theorem wpC_any {t : Sem α} {Q : α → Shared → Prop} (h : wpAny M A t Q E s) : wpC M A t Q E s := fun Γ p i _ => h Γ p i
theorem wpC_mono {t : Sem α} {Q Q' : α → Shared → Prop} {E' : Value → Shared → Prop} (h : wpC M A t Q E s) (hQ : ∀ a s, Q a s → Q' a s) (hE : ∀ e s, E e s → E' e s) : wpC M A t Q' E' s :=
  fun Γ p i c => Sem.wp_mono M Γ t (fun a _ s => hQ a s) (fun e _ s => hE e s) p s (h Γ p i c)
theorem wpC_bind {m : Sem α} {f : α → Sem β} {Q : β → Shared → Prop} (h : wpC M A m (fun a s' => wpC M A (f a) Q E s') E s) : wpC M A (m >>= f) Q E s := fun Γ p i c => by
  rw [Sem.wp_bind']
  exact Sem.wp_mono M Γ m (fun _ p' _ y => y Γ p' i c) (fun _ _ _ y => y) p s (h Γ p i c)
theorem wpC_pure {a : α} {Q : α → Shared → Prop} (h : Q a s) : wpC M A (pure a) Q E s := wpC_any (wpAny_pure h)
-- the start is any, the rest called
theorem wpC_on {m : Sem α} {f : α → Sem β} {Q : β → Shared → Prop} (h : wpAny M A m (fun a s' => wpC M A (f a) Q E s') E s) : wpC M A (m >>= f) Q E s := wpC_bind (wpC_any h)
theorem wpC_onRaise {m : Sem α} {k : Value → Sem Unit} {Q : α → Shared → Prop} (h : wpC M A m Q (fun e s' => wpC M A (k e) (fun _ s'' => E e s'') E s') s) : wpC M A (m.onRaise k) Q E s := fun Γ p i c => by
  rw [Sem.wp_onRaise]
  exact Sem.wp_mono M Γ m (fun _ _ _ y => y) (fun _ p' _ y => y Γ p' i c) p s (h Γ p i c)
theorem wpC_attempt {m : Sem α} {Q : Except Value α → Shared → Prop} (h : wpC M A m (fun a => Q (.ok a)) (fun e => Q (.error e)) s) : wpC M A m.attempt Q E s := fun Γ p i c => by
  rw [Sem.wp_attempt]; exact h Γ p i c
theorem wpC_holding {vs : List Value} {m : Sem α} {Q : α → Shared → Prop} (h : wpC M A m Q E s) : wpC M A (holding vs m) Q E s := fun Γ p i c => by
  rw [Sem.wp_holding]; exact h Γ p i c
theorem codeC_any {c : Code} {R : Result → Shared → Prop} (h : codeAny M A c R s) : codeC M A c R s := fun Γ p e b _ => h Γ p e b
theorem codeC_mono {c : Code} {R R' : Result → Shared → Prop} (h : codeC M A c R s) (hR : ∀ r s, R r s → R' r s) : codeC M A c R' s := fun Γ p e b k => wpCode_mono hR (h Γ p e b k)
theorem called_enter {Γ : Ctx} (k : Called Γ) (c : Code) (hd : Option Value) (p : Pos) : ((Γ.enter c hd p).below.any fun x => x.1.isCaller) = true := by
  show (((Γ.code, p) :: Γ.below).any fun x => x.1.isCaller) = true
  rw [List.any_cons]; exact k
theorem wpC_run {c : Code} {h : Option Value} {Q : Flow → Shared → Prop} (hc : codeC M (A.mark h) c (fun r s' => match r with | .ok f => Q f s' | .error e => E e s') s) (hnb : h ≠ some byPass := by intro x; cases x) :
    wpC M A (run c h) Q E s := fun Γ p i k => by
  rw [Sem.wp_run]; exact hc _ p rfl (i.enter c h p hnb) (called_enter k c h p)
theorem wpC_runValue {c : Code} {Q : Value → Shared → Prop} (hc : codeC M A c (fun r s' => match r with | .ok (.ret v) => Q v s' | .ok _ => False | .error e => E e s') s) : wpC M A (runValue c) Q E s := fun Γ p i k => by
  rw [Sem.wp_runValue]; exact hc _ p rfl (i.enter c none p (by intro x; cases x)) (called_enter k c none p)
theorem wpC_call {f : Value} {pos : List Value} {kw : List (Str × Value)} {Q : Value → Shared → Prop} (hc : codeC M A (.call f ⟨pos, kw⟩) (fun r s' => match r with | .ok (.ret v) => Q v s' | .ok _ => False | .error e => E e s') s) :
    wpC M A (call f pos kw) Q E s := wpC_runValue hc
theorem codeC_tree {c : Code} {R : Result → Shared → Prop}
    (h : wpC M (A.under c) (M.den c) (fun fin s' => match fin with | .done f => R (.ok f) s' | .again c' => c'.quiet = true ∧ codeC M A c' R s') (fun e s' => R (.error e) s') s) : codeC M A c R s := fun Γ p e b k => by
  rw [wpCode_iff_wp, e]
  refine Sem.wp_mono M Γ _ (fun fin p' s' y => ?_) (fun _ _ _ y => y) p s (h Γ p (e ▸ b.in) (by unfold Called; rw [k, Bool.or_true]))
  cases fin with
  | done f => exact y
  | again c' => exact ⟨y.1, y.2 (Γ.goto c') p' rfl (b.goto c') k⟩
end
-- the walk that this head asks for
noncomputable abbrev WalkC (q : Program) (loose : List Str) (XP : (Str → Option Value) → Heap → Prop) (YP : World → Heap → Prop) (r : RowW) (d : DefRec) (kwd : List (Str × Expr)) : Prop :=
  ∀ (w : World) (s₀ s₁ : Shared) (mg mb : Str → Option Value), Ground q loose r.records XP w s₀ mg mb s₁.heap → YP w s₁.heap → ∀ (a : Addr) (o : Obj) (pm cd doc dV kV : Value), s₁.heap.get? a = some o →
    o.data = .func { Calls.docDef d.name d.params d.body d.scope pm cd doc with defaults := dV, kwdefaults := kV } → s₁.heap.CodeRec cd d.name → Dflts mg s₁.heap d.params kwd dV kV → mg d.name = some (.ref a) → s₁.gens = #[] →
    ∀ (args : List WData) (vals : List Value) (as : List Addr), r.claim.pre args = true → WData.layableAll args = true → ReadsAllW r.records (classAt s₀.heap) s₁.heap vals args as → WellAll w.params s₁.heap vals args → (∀ a ∈ as, (a == sysModules) = false) →
      wpC (model r.prog w) callerA (call (.ref a) vals) (fun v s' => GoodWG r.claim (classAt s₀.heap) (ExcName.means s₀.heap) args s₁ (.ok (.ret v)) s')
        (fun e s' => GoodWG r.claim (classAt s₀.heap) (ExcName.means s₀.heap) args s₁ (.error e) s') s₁
end Mine
namespace Mine.PySem.W
theorem holds_open {r : OpenRow} {q : Program} {loose : List Str} {Xt : Shared → Bool} {XP : (Str → Option Value) → Heap → Prop} {α : Type} {Yf : Shared → α} {Ya : World → α} {YP : World → Heap → Prop} {d : DefRec} {kwd : List (Str × Expr)} {N : Nat}
    (left : LeftO r.prog q loose Xt Yf Ya N) (hY : ∀ w s, Yf s = Ya w → YP w s.heap) (hYk : ∀ w h h', YP w h → (∀ b o, h.get? b = some o → h'.get? b = some o) → YP w h')
    (hX : ∀ s, Xt s = true → XP (s.heap.nsMap mainGlobals) s.heap) (hXk : ∀ mg h h', XP mg h → (∀ b o, h.get? b = some o → h'.get? b = some o) → XP mg h')
    (hdef : defOf q r.name = some (d, kwd)) (hp : r.prog.theDef r.name = some (d.params, d.body, d.scope)) (hk : kwWritten? d.params.kwonlyargs d.params.kw_defaults = some kwd) (hRf : ∀ s, Xt s = true → RecFacts r.records s.heap) (hwr : (!r.writes || r.records.isEmpty) = true)
    (k1 : r.wellSaid = true) (ok : (chainsOk q && opensWell r.prog && (frees r.toRowW && r.within.isEmpty)) = true) (hb : r.prog.bare) (hw : r.toRowW.promised)
    (walk : WalkC q loose XP YP r.toRowW d kwd) : r.Holds := by
  obtain ⟨ok1, ok2⟩ := Bool.and_eq_true_iff.mp ok
  obtain ⟨chains, opens⟩ := Bool.and_eq_true_iff.mp ok1
  obtain ⟨fr, wi⟩ := Bool.and_eq_true_iff.mp ok2
  obtain ⟨same, uns, idn, apt, mk⟩ := frees_parts fr
  refine ⟨k1, hw, ⟨hb, opens, by show r.toRowW.makers.map _ = []; rw [mk]; rfl⟩, hw.witness, fun w => ⟨(left.behind hX chains w).1, fun sT hT0 => ?_⟩⟩
  have bh := (left.behind (XP := fun mg h => XP mg h ∧ RecFacts r.records h) (fun s hs => ⟨hX s hs, hRf s hs⟩) chains w).2 sT hT0
  obtain ⟨sI, f1, f2, s, top, asl, gE, gN, G', yy⟩ := bh
  have GX := G'.X
  have G0 : Ground q loose [] XP w s (s.heap.nsMap mainGlobals) (s.heap.nsMap builtinsNs) s.heap := ⟨G'.T, G'.B, G'.D, G'.TE, G'.TD, G'.W, GX.1, G'.cls, G'.has, G'.apart, G'.once, G'.K⟩
  have pinned : ∀ n ∈ (if r.pinned then [r.name] else []), isTheDefsW r.prog s.heap n := fun n hn => by
    have e : n = r.name := by
      cases hpn : r.pinned <;> rw [hpn] at hn
      · cases hn
      · exact List.mem_singleton.mp hn
    rw [e]; exact pinned_of_view gN G0 hdef hp hk
  refine ⟨sI, f1, f2, s, top, pinned, GX.2.1, GX.2.2.1, ?_⟩
  have gens : s.gens = #[] := Array.eq_empty_of_size_eq_zero (beq_iff_eq.mp gE)
  have G := RecFacts.ground GX.2 G0
  intro args pre lay ord perm
  obtain ⟨⟨vs, s₁⟩, laid⟩ := Option.isSome_iff_exists.mp (layAllW_isSome (P := w.params) (ord := ord) G.has args r.args s (pre_splitW pre).1)
  have keeps := layAllW_keeps _ _ _ laid
  have rest := layAllW_rest _ _ _ laid
  obtain ⟨as, reads, into, old⟩ := reads_layAllW perm _ _ _ laid lay s₁.heap (fun _ _ e => e)
  have L : Laid r.records w s s₁ args vs as := ⟨⟨ord, perm, laid⟩, reads, into, old, keeps, rest.1.trans gens, rest.2.2.1⟩
  have G1 := G.keeps hXk keeps
  obtain ⟨a, o, pm, cd, doc, dV, kV, h1, h2, h3, h4, h5⟩ := G1.fn hdef
  have run := walk w s s₁ _ _ G1 (hYk _ _ _ (hY w s yy) keeps) a o pm cd doc dV kV h2 h3 h4 h5 (defOf_name hdef ▸ h1) L.gens args vs as pre lay L.reads L.well (L.low G.low)
  have idf := ident_freeW uns idn apt
  have wIn : r.toRowW.claim.within = [] := List.isEmpty_iff.mp wi
  -- the caller's own tree, at the caller
  let Kept : Heap → Prop := fun h' => r.writes = true → namesKept r.prog r.keeps s.heap h' ∧ ∀ x ∈ r.records, ∀ a, classAt s.heap x.1 = some a → recordClass h' a x.1 (x.2.map (·.1)) = true
  let R : Result → Shared → Prop := fun x s' => r.toRowW.claim.Ends s args vs s₁ x s' ∧ s'.os = s.os ∧ Kept s'.heap
  have good : ∀ x s', GoodWG r.toRowW.claim (classAt s.heap) (ExcName.means s.heap) args s₁ x s' → R x s' ∧ leftWithCleanup s'.gens = false := fun x s' g =>
    have z := g.laid (c := r.toRowW.claim) same wIn idf L
    ⟨⟨z.1, z.2.1, fun q => ⟨namesKept_of top gN r.keeps keeps g.2.1.old, noTable hwr q⟩⟩, leftWithCleanup_false_of_bare z.2.2⟩
  have tree : wpC (model r.prog w) callerA (callStub r.name vs).cur (fun fin s' => ∃ f, fin = .done f ∧ R (.ok f) s' ∧ leftWithCleanup s'.gens = false) (fun e s' => R (.error e) s' ∧ leftWithCleanup s'.gens = false) s₁ := by
    refine wpC_on (wpAny_nsGet G1.T.g ?_)
    rw [h1]
    exact wpC_bind (wpC_mono run (fun v s' g => wpC_pure ⟨_, rfl, good _ _ g⟩) fun e s' g => good _ _ g)
  obtain ⟨k, x, e', e'', hsch, hrun, hfo, hR⟩ := wp_halts_full (M := model r.prog w) (c := .builtin "claim.caller" {}) (p := default) (R := R) (Shared.asleep_of_life rest.2.2.2 asl) (Sem.wp_mono (model r.prog w) _ (callStub r.name vs).cur (fun fin p' s' y => by
    obtain ⟨f, rfl, y⟩ := y; exact y) (fun _ _ _ y => y) default s₁ (tree ⟨.builtin "claim.caller" {}, none, none, [], none⟩ default caller_in rfl))
  obtain ⟨eh, _, _, eo, _⟩ := Shared.forget_eq hfo
  obtain ⟨ends, hos, hkp⟩ := hR
  have ends := ends.congr eh
  rw [← eh] at hkp
  rw [← eo] at hos
  have life : e''.heap.life = s.heap.life := (runN_life _ _ _ hrun).trans rest.2.2.2
  refine ⟨vs, s₁, laid, k, _, e'', hsch, ?_, (fun _ i y hy => by rw [gens] at hy; simp at hy), hkp, by rw [life], Shared.rest_eq hos⟩
  rcases ends with ⟨v, rfl, d1, d2, d3, d4, d5⟩ | ⟨e, ob, cls, rfl, d1, d2, d3, d4, d5⟩
  · exact .inl ⟨v, rfl, d1, d2, d3, fun b o y _ => d4 b o y, d5⟩
  · exact .inr ⟨e, ob, cls, rfl, d1, d2, d3, d4, fun b o y _ => d5 b o y⟩
end Mine.PySem.W
namespace Mine
section
local macro_rules | `(tactic| k_head) => `(tactic| o_head (kHook Mine.K Mine.KA (fun _ => by kernel_rfl)))
set_option maxRecDepth 100000 in
set_option maxHeartbeats 0 in
open_top hx for PySem.Challenge.rw_il0124_01
end
end Mine

end
section
open PySem PySem.W PySem.W.X PyProof.Rows
set_option maxRecDepth 100000
namespace Mine
theorem K_of {P : Params} {a : Addr} {o : Obj} (h : (K P).lookup a = some o) : a ≠ 172 ∧ a ≠ 187 := by
  constructor
  · intro e
    subst e
    have q : (K P).lookup 172 = none := by kernel_rfl
    rw [q] at h; cases h
  · intro e
    subst e
    have q : (K P).lookup 187 = none := by kernel_rfl
    rw [q] at h; cases h
theorem In_insert {l1 l2 : Frag} {c : Addr} {oc : Obj} {h : Heap} (x : Frag.In (l1 ++ l2) h) (t : h.get? c = some oc) : Frag.In (l1 ++ (c, oc) :: l2) h := fun a o l => by
  rw [List.lookup_append] at l
  have y : List.lookup a (l1 ++ l2) = some o → h.get? a = some o := x a o
  rw [List.lookup_append] at y
  cases e : List.lookup a l1 with
  | some o' => rw [e] at l y; exact y l
  | none =>
    rw [e] at l y
    have l : List.lookup a ((c, oc) :: l2) = some o := l
    rw [List.lookup_cons] at l
    cases q : a == c with
    | true => rw [q] at l; rw [beq_iff_eq.mp q]; exact t.trans l
    | false => rw [q] at l; exact y l
-- what stood stands, but for the two code tables
noncomputable def Ext (h h' : Heap) : Prop := ∀ b o, (hasCls o = true ∨ (b ≠ 172 ∧ b ≠ 187)) → h.get? b = some o → h'.get? b = some o
theorem Ext.refl (h : Heap) : Ext h h := fun _ _ _ e => e
theorem Ext.trans {h₁ h₂ h₃ : Heap} (x : Ext h₁ h₂) (y : Ext h₂ h₃) : Ext h₁ h₃ := fun b o n e => y b o n (x b o n e)
theorem Ext.of_keep {h h' : Heap} (k : ∀ b o, h.get? b = some o → h'.get? b = some o) : Ext h h' := fun b o _ e => k b o e
theorem Ext.at {h h' : Heap} (x : Ext h h') {b : Addr} {o : Obj} (c : hasCls o = true) (e : h.get? b = some o) : h'.get? b = some o := x b o (.inl c) e
theorem K_keeps {P : Params} {h h' : Heap} (x : (K P).In h) (e : Ext h h') : (K P).In h' := fun a o l =>
  e a o (.inr (K_of l)) (x a o l)

-- the code table of the def that makes the hits: empty, or filled by its first call
noncomputable def hq1 : Str := ⟨#[95, 108, 97, 119, 95, 104, 105, 116, 46, 60, 108, 111, 99, 97, 108, 115, 62, 46, 60, 108, 97, 109, 98, 100, 97, 62]⟩
noncomputable def CodeAt (h : Heap) (c : Addr) : Prop := ∃ (v0 : Value) (t : Tok) (rest : List Value), h.get? c = some { cls := .type "code", data := .fields ⟨v0 :: .str hq1 t :: rest⟩ }
theorem CodeAt.keeps {h h' : Heap} {c : Addr} (x : CodeAt h c) (e : Ext h h') : CodeAt h' c := let ⟨a, b, d, g⟩ := x; ⟨a, b, d, e.at rfl g⟩
noncomputable def T172 (h : Heap) : Prop := h.get? 172 = some { cls := .none, data := .fields #[] } ∨
  ∃ c1 c2 : Addr, h.get? 172 = some { cls := .none, data := .fields #[rawInt 97, rawInt 10, .ref c1, rawInt 98, rawInt 15, .ref c2] } ∧ CodeAt h c1 ∧ CodeAt h c2
theorem T172.keeps {h h' : Heap} (x : T172 h) (k : ∀ b o, h.get? b = some o → h'.get? b = some o) : T172 h' := by
  rcases x with x | ⟨c1, c2, x, y, z⟩
  · exact .inl (k _ _ x)
  · exact .inr ⟨c1, c2, k _ _ x, y.keeps (.of_keep k), z.keeps (.of_keep k)⟩

-- the built-in names stand as they were booted
noncomputable def Bi (h : Heap) : Prop := ∃ o es n, h.get? 0 = some o ∧ o.data = .dict es n ∧ StrKeys es ∧ ∀ x : Str, x ≠ "__name__" → nsFind es x = bootBuiltins x
theorem Bi.at {h h' : Heap} (b : Bi h) (k : ∀ o, h.get? 0 = some o → h'.get? 0 = some o) : Bi h' := let ⟨o, es, n, e, r⟩ := b; ⟨o, es, n, k o e, r⟩
theorem Bi.ext {h h' : Heap} (b : Bi h) (x : Ext h h') : Bi h' := b.at fun o e => x 0 o (.inr (by decide)) e
theorem Bi.ns {h : Heap} (b : Bi h) : ∃ mb, h.Ns 0 mb ∧ ∀ x : Str, x ≠ "__name__" → mb x = bootBuiltins x := let ⟨o, es, n, e, d, k, f⟩ := b; ⟨_, ⟨o, es, n, e, d, k, fun _ => rfl⟩, f⟩
structure Ok (w : World) (h : Heap) : Prop where
  k : (K w.params).In h
  t : T172 h
  u : ∃ vs : Array Value, h.get? 187 = some { cls := .none, data := .fields vs }
  b : Bi h
theorem Ok.keeps {w : World} {h h' : Heap} (x : Ok w h) (k : ∀ b o, h.get? b = some o → h'.get? b = some o) : Ok w h' := ⟨K_keeps x.k (.of_keep k), x.t.keeps k, let ⟨vs, e⟩ := x.u; ⟨vs, k _ _ e⟩, x.b.at fun _ e => k _ _ e⟩
structure Step (s s' : Shared) : Prop where
  ext : Ext s.heap s'.heap
  there : ∀ b o, s.heap.get? b = some o → ∃ o', s'.heap.get? b = some o'
  gens : s'.gens = s.gens
  os : s'.os = s.os
theorem Step.refl (s : Shared) : Step s s := ⟨.refl _, fun _ o e => ⟨o, e⟩, rfl, rfl⟩
theorem Step.trans {s₁ s₂ s₃ : Shared} (x : Step s₁ s₂) (y : Step s₂ s₃) : Step s₁ s₃ := ⟨x.ext.trans y.ext, fun b o e => let ⟨o', e'⟩ := x.there b o e; y.there b o' e', y.gens.trans x.gens, y.os.trans x.os⟩

structure Fit (n : Nat) (A : Around) : Prop where
  hd : A.handled = none
  depth : A.depth + n ≤ 800
  units : A.units + 10 * n ≤ 5000
theorem Fit.deeper {n : Nat} {A : Around} {env : Env} (x : Fit (n + 1) A) : Fit n (A.deeper env) := ⟨x.hd, by show A.depth + 1 + n ≤ 800; have := x.depth; omega, by show A.units + 3 + 10 * n ≤ 5000; have := x.units; omega⟩
theorem Fit.in1 {n : Nat} {A : Around} (x : Fit (n + 1) A) : Fit n A.in1 := ⟨x.hd, by show A.depth + n ≤ 800; have := x.depth; omega, by show A.units + 1 + 10 * n ≤ 5000; have := x.units; omega⟩
theorem Fit.room {n : Nat} {A : Around} (x : Fit n A) : A.depth < recursionLimit := by have := x.depth; unfold recursionLimit; omega
theorem Fit.room2 {n : Nat} {A : Around} (x : Fit n A) : A.units < cLine := by have := x.units; unfold cLine; omega

noncomputable abbrev A0 : Around := { handled := none, depth := 800, frames := none, guards := none, units := 5000 }
theorem lift {α : Type} {M : Model} {A A' : Around} {t : Sem α} {Q : α → Shared → Prop} {E : Value → Shared → Prop} {s : Shared} (h : wpAny M A' t Q E s)
    (hh : A.handled = A'.handled) (hd : A.depth ≤ A'.depth) (hf : ∀ l, A'.frames = some l → A.frames = some l) (hg : ∀ g, A'.guards = some g → A.guards = some g) (hu : A.units ≤ A'.units) : wpAny M A t Q E s :=
  fun Γ p hΓ => h Γ p ⟨hΓ.1.trans hh, Nat.le_trans hΓ.2.1 hd, fun l hl => hΓ.2.2.1 l (hf l hl), fun g hg' => hΓ.2.2.2.1 g (hg g hg'), Nat.le_trans hΓ.2.2.2.2 hu⟩
theorem lift0 {α : Type} {M : Model} {A : Around} {n : Nat} {t : Sem α} {Q : α → Shared → Prop} {E : Value → Shared → Prop} {s : Shared} (f : Fit n A) (h : wpAny M A0 t Q E s) : wpAny M A t Q E s :=
  lift h f.hd (by have := f.depth; show A.depth ≤ 800; omega) (fun _ e => by cases e) (fun _ e => by cases e) (by have := f.units; show A.units ≤ 5000; omega)

theorem keep_of_mem {h₀ h : Heap} {news : List (Addr × Obj)} (D : Mem h₀ h [] news) : ∀ b o, h₀.get? b = some o → h.get? b = some o := fun b o e => D.keep b o e (by cases hasCls o <;> rfl)
theorem ext_of_mem1 {h₀ h : Heap} {o₁ : Obj} {news : List (Addr × Obj)} (D : Mem h₀ h [(172, o₁)] news) : Ext h₀ h := fun b o c e => D.keep b o e (by
  rcases c with c | c
  · rw [c]; rfl
  · have q2 : away [(172, o₁)] b = true := by
      show (!(Nat.beq 172 b) && true) = true
      have : Nat.beq 172 b = false := by
        cases q : Nat.beq 172 b with
        | false => rfl
        | true => exact absurd (Nat.eq_of_beq_eq_true q).symm c.1
      rw [this]; rfl
    rw [q2, Bool.or_true])
theorem ext_of_mem {h₀ h : Heap} {news : List (Addr × Obj)} (D : Mem h₀ h [] news) : Ext h₀ h := .of_keep (keep_of_mem D)
end Mine

end
section
open PySem PySem.W PySem.W.X PyProof.Rows
set_option maxRecDepth 100000
namespace Mine
theorem K2_in {P : Params} {h : Heap} (x : (K P).In h) (t : h.get? 172 = some noTab) : (K2 P).In h := by
  have e : K2 P = (K P).take 26 ++ (172, noTab) :: (K P).drop 26 := by kernel_rfl
  rw [e]
  exact In_insert (by rw [List.take_append_drop]; exact x) t
theorem K3_in {P : Params} {h : Heap} (x : (K P).In h) (t : h.get? 187 = some noTab) : (K3 P).In h := by
  have e : K3 P = (K P).take 31 ++ (187, noTab) :: (K P).drop 31 := by kernel_rfl
  rw [e]
  exact In_insert (by rw [List.take_append_drop]; exact x) t
end Mine

end
section
open PySem PySem.W PySem.W.X PyProof.Rows
namespace Mine
noncomputable abbrev tupObj (vs : Array Value) : Obj := { cls := .type "tuple", data := .seq vs }
-- a hit's span: a function whose call gives the pair (f, b)
noncomputable abbrev SpanAt (w : World) (s : Shared) (a : Addr) (f b : Int) : Prop :=
    ∃ (d sp : Addr) (f0 : FuncData) (hs : Int) (tk : Tok) (fd : FuncData),
      s.heap.get? a = some { cls := .type "function", dict := some d, data := .func f0 } ∧
      s.heap.get? d = some { cls := .type "dict", data := .dict #[{ hash := hs, key := .str ⟨#[115, 112, 97, 110]⟩ tk, val := .ref sp }] 1 } ∧
      s.heap.get? sp = some { cls := .type "function", data := .func fd } ∧
      ∀ E : Value → Shared → Prop, wpAny (model PW w) A0 (call (.ref sp) []) (fun v s' => ∃ p tf tb, v = .ref p ∧ (∀ b o, s.heap.get? b = some o → s'.heap.get? b = some o) ∧ s.heap.get? p = none ∧ s'.gens = s.gens ∧ s'.os = s.os ∧ s'.heap.get? p = some (tupObj #[.int f tf, .int b tb])) E s
-- what a hit does, wherever the objects objs stand
noncomputable def Hit (w : World) (objs : List (Addr × Obj)) (a : Addr) (f b : Int) : Prop :=
  ∀ s : Shared, (∀ p ∈ objs, s.heap.get? p.1 = some p.2) → Ok w s.heap → SpanAt w s a f b
noncomputable def notDict (o : Obj) : Bool := match o.data with | .dict .. => false | _ => true
-- a thing made by a call from the heap h₀, in the heap h
noncomputable def Made (h₀ h : Heap) (objs : List (Addr × Obj)) : Prop := ∀ p ∈ objs, h.get? p.1 = some p.2 ∧ hasCls p.2 = true ∧ (h₀.get? p.1 = none ∨ notDict p.2 = true)
theorem mem_fresh {h₀ h : Heap} {chg news : List (Addr × Obj)} (D : Mem h₀ h chg news) (i : Nat) {a : Addr} {o : Obj} (hi : news[i]? = some (a, o)) : h₀.get? a = none := (D.nw _ (List.mem_of_getElem? hi)).2
theorem has_at {h : Heap} {objs : List (Addr × Obj)} (x : ∀ p ∈ objs, h.get? p.1 = some p.2) (i : Nat) {a : Addr} {o : Obj} (hi : objs[i]? = some (a, o)) : h.get? a = some o := x _ (List.mem_of_getElem? hi)
theorem made_nil {h₀ h : Heap} : Made h₀ h [] := fun _ hp => nomatch hp
theorem made_new {h₀ h : Heap} {chg news objs : List (Addr × Obj)} (D : Mem h₀ h chg news) (i : Nat) {a : Addr} {o : Obj} (hi : news[i]? = some (a, o)) (hc : hasCls o = true) (r : Made h₀ h objs) : Made h₀ h ((a, o) :: objs) := fun p hp => by
  rcases List.mem_cons.mp hp with rfl | hp
  · have := D.nw _ (List.mem_of_getElem? hi)
    exact ⟨this.1, hc, .inl this.2⟩
  · exact r p hp
theorem made_old {h₀ h : Heap} {objs : List (Addr × Obj)} {a : Addr} {o : Obj} (e : h.get? a = some o) (hc : hasCls o = true) (hd : notDict o = true) (r : Made h₀ h objs) : Made h₀ h ((a, o) :: objs) := fun p hp => by
  rcases List.mem_cons.mp hp with rfl | hp
  · exact ⟨e, hc, .inr hd⟩
  · exact r p hp
noncomputable abbrev HitPost (w : World) (s : Shared) (f b : Int) (v : Value) (s' : Shared) : Prop :=
  ∃ a objs, v = .ref a ∧ Step s s' ∧ Ok w s'.heap ∧ Made s.heap s'.heap objs ∧ Hit w objs a f b
theorem step_of_mem {h : Heap} {d : Drawn} {t : Nat} {s : Shared} {chg news : List (Addr × Obj)} (D : Mem s.heap h chg news) (x : Ext s.heap h) : Step s ⟨h, s.gens, d, t, s.os⟩ := ⟨x, fun _ _ e => D.there e, rfl, rfl⟩

theorem pair_end {s : Shared} {h : Heap} {d : Drawn} {t : Nat} {p : Addr} {f b : Int} {tf tb : Tok} {news : List (Addr × Obj)} (D : Mem s.heap h [] ((p, tupObj #[.int f tf, .int b tb]) :: news)) :
    ∃ q uf ub, Value.ref p = .ref q ∧ (∀ b o, s.heap.get? b = some o → h.get? b = some o) ∧ s.heap.get? q = none ∧ (⟨h, s.gens, d, t, s.os⟩ : Shared).gens = s.gens ∧ (⟨h, s.gens, d, t, s.os⟩ : Shared).os = s.os ∧ h.get? q = some (tupObj #[.int f uf, .int b ub]) :=
  ⟨_, _, _, rfl, keep_of_mem D, mem_fresh D 0 rfl, rfl, rfl, D.at 0 _ _ rfl⟩
section
variable {w : World} {s : Shared} {f b : Int} {h : Heap} {d : Drawn} {t : Nat} {news : List (Addr × Obj)} {a3 a0 a1 a4 a5 c1 c2 : Addr} {o3 o0 o1 o4 o5 : Obj}
noncomputable abbrev SpanIf (w : World) (f b : Int) (a3 a0 a1 a4 a5 c2 : Addr) (o3 o0 o1 o4 o5 : Obj) : Prop := ∀ (s2 : Shared) (v0 : Value) (t0 : Tok) (rest : List Value), (K w.params).In s2.heap → s2.heap.get? a3 = some o3 → s2.heap.get? a0 = some o0 → s2.heap.get? a1 = some o1 → s2.heap.get? a4 = some o4 → s2.heap.get? a5 = some o5 →
  s2.heap.get? c2 = some { cls := .type "code", data := .fields ⟨v0 :: .str hq1 t0 :: rest⟩ } → SpanAt w s2 a3 f b
theorem hit_end {chg : List (Addr × Obj)} (D : Mem s.heap h chg news) (X : Ext s.heap h) (ok' : Ok w h) (y2 : CodeAt h c2) {i3 i0 i1 i4 i5 : Nat} (n3 : news[i3]? = some (a3, o3)) (n0 : news[i0]? = some (a0, o0)) (n1 : news[i1]? = some (a1, o1)) (n4 : news[i4]? = some (a4, o4)) (n5 : news[i5]? = some (a5, o5))
    (k3 : hasCls o3 = true) (k0 : hasCls o0 = true) (k1 : hasCls o1 = true) (k4 : hasCls o4 = true) (k5 : hasCls o5 = true) (H : SpanIf w f b a3 a0 a1 a4 a5 c2 o3 o0 o1 o4 o5) : HitPost w s f b (.ref a3) ⟨h, s.gens, d, t, s.os⟩ := by
  obtain ⟨v0, t0, rest, e2⟩ := y2
  exact ⟨_, _, rfl, step_of_mem D X, ok', made_new D i3 n3 k3 (made_new D i0 n0 k0 (made_new D i1 n1 k1 (made_new D i4 n4 k4 (made_new D i5 n5 k5 (made_old e2 rfl rfl made_nil))))), fun s2 hx ok2 =>
    H s2 v0 t0 rest ok2.k (has_at hx 0 rfl) (has_at hx 1 rfl) (has_at hx 2 rfl) (has_at hx 3 rfl) (has_at hx 4 rfl) (has_at hx 5 rfl)⟩
theorem hit_end2 (D : Mem s.heap h [] news) (ok : Ok w s.heap) (y2 : CodeAt s.heap c2) (n3 : news[3]? = some (a3, o3)) (n0 : news[0]? = some (a0, o0)) (n1 : news[1]? = some (a1, o1)) (n4 : news[4]? = some (a4, o4)) (n5 : news[5]? = some (a5, o5))
    (k3 : hasCls o3 = true) (k0 : hasCls o0 = true) (k1 : hasCls o1 = true) (k4 : hasCls o4 = true) (k5 : hasCls o5 = true) (H : SpanIf w f b a3 a0 a1 a4 a5 c2 o3 o0 o1 o4 o5) : HitPost w s f b (.ref a3) ⟨h, s.gens, d, t, s.os⟩ :=
  hit_end D (ext_of_mem D) (ok.keeps (keep_of_mem D)) (y2.keeps (ext_of_mem D)) n3 n0 n1 n4 n5 k3 k0 k1 k4 k5 H
theorem hit_end1 {v1 v2 : Value} {t1 t2 : Tok} {r1 r2 : List Value} (D : Mem s.heap h [(172, { cls := .none, data := .fields #[rawInt 97, rawInt 10, .ref c1, rawInt 98, rawInt 15, .ref c2] })] news) (ok : Ok w s.heap)
    (m1 : news[10]? = some (c1, { cls := .type "code", data := .fields ⟨v1 :: .str hq1 t1 :: r1⟩ })) (m2 : news[2]? = some (c2, { cls := .type "code", data := .fields ⟨v2 :: .str hq1 t2 :: r2⟩ }))
    (n3 : news[9]? = some (a3, o3)) (n0 : news[0]? = some (a0, o0)) (n1 : news[1]? = some (a1, o1)) (n4 : news[16]? = some (a4, o4)) (n5 : news[17]? = some (a5, o5))
    (k3 : hasCls o3 = true) (k0 : hasCls o0 = true) (k1 : hasCls o1 = true) (k4 : hasCls o4 = true) (k5 : hasCls o5 = true) (H : SpanIf w f b a3 a0 a1 a4 a5 c2 o3 o0 o1 o4 o5) : HitPost w s f b (.ref a3) ⟨h, s.gens, d, t, s.os⟩ := by
  have X := ext_of_mem1 D
  have y1 : CodeAt h c1 := ⟨_, _, _, D.at 10 _ _ m1⟩
  have y2 : CodeAt h c2 := ⟨_, _, _, D.at 2 _ _ m2⟩
  exact hit_end D X ⟨K_keeps ok.k X, .inr ⟨_, _, D.atC 0 _ _ rfl, y1, y2⟩, let ⟨vs, e⟩ := ok.u; ⟨vs, D.keep _ _ e rfl⟩, ok.b.ext X⟩ y2 n3 n0 n1 n4 n5 k3 k0 k1 k4 k5 H
end
section
local macro_rules | `(tactic| x_close) => `(tactic| first
  | exact pair_end (by assumption)
  | exact hit_end2 (by assumption) (by assumption) (by assumption) rfl rfl rfl rfl rfl rfl rfl rfl rfl rfl (by intro _ _ _ _ _ _ _ _ _ _ _; exact ⟨_, _, _, _, _, _, by assumption, by assumption, by assumption, fun _ => by x_run⟩)
  | exact hit_end1 (by assumption) (by assumption) rfl rfl rfl rfl rfl rfl rfl rfl rfl rfl rfl rfl (by intro _ _ _ _ _ _ _ _ _ _ _; exact ⟨_, _, _, _, _, _, by assumption, by assumption, by assumption, fun _ => by x_run⟩))
set_option maxRecDepth 100000 in
set_option maxHeartbeats 0 in
theorem hit2 (w : World) (s : Shared) (f b : Int) (tf tb : Tok) (c1 c2 : Addr) (E : Value → Shared → Prop) (ok : Ok w s.heap)
   (hT : s.heap.get? (nat_lit 172) = some { cls := .none, data := .fields #[rawInt 97, rawInt 10, .ref c1, rawInt 98, rawInt 15, .ref c2] }) (_y1 : CodeAt s.heap c1) (y2 : CodeAt s.heap c2) : wpAny (model PW w) A0 (call (.ref 177) [.int f tf, .int b tb])
    (HitPost w s f b) E s := by
  have KX := ok.k
  x_run
set_option maxRecDepth 100000 in
set_option maxHeartbeats 0 in
theorem hit1 (w : World) (s : Shared) (f b : Int) (tf tb : Tok) (E : Value → Shared → Prop) (ok : Ok w s.heap) :
   (K2 w.params).In s.heap → wpAny (model PySem.Challenge.rw_il0124_01.prog w) A0 (call (.ref 177) [.int f tf, .int b tb])
    (HitPost w s f b) E s := by
  k_fill
  intro KX
  x_run
end
theorem hit_call {A : Around} {n : Nat} (fit : Fit n A) (w : World) (s : Shared) (f b : Int) (tf tb : Tok) (E : Value → Shared → Prop) (ok : Ok w s.heap) :
   wpAny (model PW w) A (call (.ref 177) [.int f tf, .int b tb]) (HitPost w s f b) E s := by
  refine lift0 fit ?_
  rcases ok.t with t | ⟨c1, c2, t, y1, y2⟩
  · exact hit1 w s f b tf tb E ok (K2_in ok.k t)
  · exact hit2 w s f b tf tb c1 c2 E ok t y1 y2
end Mine

end
section
open PySem PySem.W PySem.W.X PyProof.Rows PySem.Calls
set_option maxRecDepth 100000
namespace Mine
noncomputable abbrev LMap := Str → Option Value
-- the state within a frame: the frame's dict at L holds m; the ledger N stands; what stood at the call's start stands
structure In (w : World) (s₀ : Shared) (L : Addr) (m : LMap) (N : List (Addr × Obj)) (h : Heap) (g : Array GenState) (o : OsState) : Prop where
  ns : h.Ns L m
  fresh : s₀.heap.get? L = none
  ok₀ : Ok w s₀.heap
  ext : Ext s₀.heap h
  there : ∀ b o, s₀.heap.get? b = some o → ∃ o', h.get? b = some o'
  gens : g = s₀.gens
  os : o = s₀.os
  ok : Ok w h
  has : ∀ p ∈ N, h.get? p.1 = some p.2 ∧ p.1 ≠ L ∧ hasCls p.2 = true
theorem In.step {w : World} {s₀ s : Shared} {L : Addr} {m : LMap} {N} (I : In w s₀ L m N s.heap s.gens s.os) : Step s₀ s := ⟨I.ext, I.there, I.gens, I.os⟩
theorem In.mono {w : World} {s₀ : Shared} {L : Addr} {m : LMap} {N N' h g o} (I : In w s₀ L m N h g o) (x : ∀ p ∈ N', p ∈ N) : In w s₀ L m N' h g o :=
  ⟨I.ns, I.fresh, I.ok₀, I.ext, I.there, I.gens, I.os, I.ok, fun p hp => I.has p (x p hp)⟩

noncomputable def upd (m : LMap) (x : Str) (v : Value) : LMap := fun y => if y = x then some v else m y
@[simp] theorem upd_same {m : LMap} {x : Str} {v : Value} : upd m x v x = some v := if_pos rfl
theorem upd_ne {m : LMap} {x y : Str} {v : Value} (h : y ≠ x) : upd m x v y = m y := if_neg h

theorem ns_ne {h : Heap} {L : Addr} {m : LMap} (n : h.Ns L m) {a : Addr} {o : Obj} (e : h.get? a = some o) (d : notDict o = true) : a ≠ L := by
  intro q
  subst q
  obtain ⟨o', es, ep, e', d', _⟩ := n
  rw [e] at e'; cases e'
  unfold notDict at d; rw [d'] at d; cases d

theorem Ok.set {w : World} {h h' : Heap} {L : Addr} {m : LMap} (ok : Ok w h) (n : h.Ns L m) (kL : ∀ a o, (K w.params).lookup a = some o → a ≠ L) (k0 : (0 : Addr) ≠ L) (hs : Heap.SameBut L h h') : Ok w h' := by
  refine ⟨fun a o l => (hs.2 a (kL a o l)).trans (ok.k a o l), ?_, let ⟨vs, e⟩ := ok.u; ⟨vs, (hs.2 _ (ns_ne n e rfl)).trans e⟩, ok.b.at fun _ e => (hs.2 _ k0).trans e⟩
  rcases ok.t with t | ⟨c1, c2, t, ⟨a1, a2, a3, y1⟩, ⟨b1, b2, b3, y2⟩⟩
  · exact .inl ((hs.2 _ (ns_ne n t rfl)).trans t)
  · exact .inr ⟨c1, c2, (hs.2 _ (ns_ne n t rfl)).trans t, ⟨a1, a2, a3, (hs.2 _ (ns_ne n y1 rfl)).trans y1⟩, ⟨b1, b2, b3, (hs.2 _ (ns_ne n y2 rfl)).trans y2⟩⟩

theorem In.kne {w : World} {s₀ : Shared} {L : Addr} {m : LMap} {N h g o} (I : In w s₀ L m N h g o) : ∀ a o, (K w.params).lookup a = some o → a ≠ L := fun a o l e => by
  have := I.ok₀.k a o l
  rw [e, I.fresh] at this; cases this
theorem In.k0 {w : World} {s₀ : Shared} {L : Addr} {m : LMap} {N h g o} (I : In w s₀ L m N h g o) : (0 : Addr) ≠ L := fun e => by
  obtain ⟨o, _, _, q, _⟩ := I.ok₀.b
  rw [e, I.fresh] at q; cases q
theorem In.set {w : World} {s₀ : Shared} {L : Addr} {m m' : LMap} {N h h' g o} (I : In w s₀ L m N h g o) (n : h'.Ns L m') (hs : Heap.SameBut L h h') : In w s₀ L m' N h' g o := by
  have ne : ∀ b o, s₀.heap.get? b = some o → b ≠ L := fun b o e q => by rw [q, I.fresh] at e; cases e
  exact ⟨n, I.fresh, I.ok₀, fun b o c e => (hs.2 b (ne b o e)).trans (I.ext b o c e), fun b o e => let ⟨o', e'⟩ := I.there b o e; ⟨o', (hs.2 b (ne b o e)).trans e'⟩, I.gens, I.os,
    I.ok.set I.ns I.kne I.k0 hs, fun p hp => ⟨(hs.2 _ (I.has p hp).2.1).trans (I.has p hp).1, (I.has p hp).2⟩⟩

theorem Ok.apart {w : World} {h : Heap} {L : Addr} {m : LMap} (ok : Ok w h) (n : h.Ns L m) : L ≠ 172 ∧ L ≠ 187 := by
  constructor
  · rcases ok.t with t | ⟨c1, c2, t, _⟩ <;> exact (ns_ne n t rfl).symm
  · obtain ⟨vs, e⟩ := ok.u
    exact (ns_ne n e rfl).symm
-- behind a call
theorem In.call {w : World} {s₀ s s' : Shared} {L : Addr} {m : LMap} {N} (I : In w s₀ L m N s.heap s.gens s.os) (t : Step s s') (ok : Ok w s'.heap) : In w s₀ L m N s'.heap s'.gens s'.os := by
  have hL := I.ok.apart I.ns
  obtain ⟨oL, es, ep, e, r⟩ := I.ns
  exact ⟨⟨oL, es, ep, t.ext _ _ (.inr hL) e, r⟩, I.fresh, I.ok₀, I.ext.trans t.ext, fun b o e => let ⟨o', e'⟩ := I.there b o e; t.there b o' e', t.gens.trans I.gens, t.os.trans I.os, ok,
    fun p hp => ⟨t.ext _ _ (.inl (I.has p hp).2.2) (I.has p hp).1, (I.has p hp).2⟩⟩
-- what a call made goes onto the ledger
theorem In.more {w : World} {s₀ s s' : Shared} {L : Addr} {m : LMap} {N objs} (I : In w s₀ L m N s.heap s.gens s.os) (I' : In w s₀ L m N s'.heap s'.gens s'.os) (x : Made s.heap s'.heap objs) : In w s₀ L m (objs ++ N) s'.heap s'.gens s'.os :=
  ⟨I'.ns, I'.fresh, I'.ok₀, I'.ext, I'.there, I'.gens, I'.os, I'.ok, fun p hp => by
    rcases List.mem_append.mp hp with hp | hp
    · obtain ⟨e, c, d⟩ := x p hp
      refine ⟨e, ?_, c⟩
      rcases d with d | d
      · intro q
        obtain ⟨oL, es, ep, eL, _⟩ := I.ns
        rw [q, eL] at d; cases d
      · exact ns_ne I'.ns e d
    · exact I'.has p hp⟩

section
variable {M : Model} {A : Around} {E : Value → Shared → Prop} {s s₀ : Shared} {w : World} {L a : Addr} {m : LMap} {N : List (Addr × Obj)} {nm : Str} {sc : Scope} {cd : Value}
theorem ldv {x : Str} {pos : Pos} {v : Value} {Q : Value → Shared → Prop} (I : In w s₀ L m N s.heap s.gens s.os) (hv : m x = some v) (h : Q v s)
    (hk : sc.kind = .function := by rfl) (hl : (envOf nm sc L a cd).kindOf x = some .local := by rfl)
    (hd : (x == ("__debug__" : Str)) = false := by decide) : wpAny M A (eval (.Name x pos) (envOf nm sc L a cd)) Q E s := wpAny_Name (wpAny_loadName_local hk hl I.ns hv h) hd
theorem stv {x : Str} {v : Value} {Q : Unit → Shared → Prop} (I : In w s₀ L m N s.heap s.gens s.os)
    (h : ∀ s', In w s₀ L (upd m x v) N s'.heap s'.gens s'.os → Heap.SameBut L s.heap s'.heap → Q () s')
    (hk : sc.kind = .function := by rfl) (hl : (envOf nm sc L a cd).kindOf x = some .local := by rfl) :
    wpAny M A (storeName (envOf nm sc L a cd) x v) Q E s :=
  wpAny_storeName_local hl I.ns (fun h' hn hs => h { s with heap := h', toks := s.toks + 1 } (I.set hn hs) hs)
    (by show (sc.kind == .class || (sc.kind == .module && L != mainGlobals)) = false; rw [hk]; rfl)

noncomputable def keysB (o : Option Obj) : Bool := match o with
  | some ⟨_, _, .dict es _, _⟩ => es.toList.all fun e => match e.key with | .str .. => true | _ => false
  | _ => false
theorem ns_of {K : Frag} {h : Heap} {b : Addr} (x : K.In h) (e : keysB (K.lookup b) = true) : ∃ mg, h.Ns b mg := by
  unfold keysB at e
  split at e
  · rename_i es n sl ho
    refine ⟨fun x => nsFind es x, _, es, n, x _ _ ho, rfl, fun y hy => ?_, fun _ => rfl⟩
    have := List.all_eq_true.mp e y (Array.mem_toList_iff.mpr hy)
    split at this
    · rename_i q; exact ⟨_, _, q⟩
    · cases this
  · cases e
theorem k3 (P : Params) : keysB ((K P).lookup 3) = true := by kernel_rfl
theorem k2b (P : Params) : keysB ((K P).lookup 2) = true := by kernel_rfl
theorem k2n (P : Params) : nsIn (K P) 2 ("sys.recursionlimit" : Str) = some none := by kernel_rfl
theorem ns_val {K : Frag} {h : Heap} {b : Addr} {mg : LMap} {x : Str} {r : Option Value} (X : K.In h) (n : h.Ns b mg) (e : nsIn K b x = some r) : mg x = r := by
  obtain ⟨o, es, ep, ho, hd, _, hf⟩ := n
  unfold nsIn at e
  split at e
  · rename_i q
    have q' := X _ _ q
    rw [ho] at q'; cases q'; cases hd
    rw [← hf]
    unfold nsFind findBy
    rw [← Array.find?_toList]
    split at e
    · rename_i z; rw [z]; exact Option.some.inj e
    · rename_i z
      rw [z]
      split at e
      · cases e
      · exact Option.some.inj e
  · cases e
theorem Ok.nolimit {h : Heap} (ok : Ok w h) : h.NoLimit := by
  obtain ⟨mc, n⟩ := ns_of ok.k (k2b w.params)
  exact ⟨mc, n, ns_val ok.k n (k2n w.params)⟩
-- a name of the module
theorem glv {x : Str} {pos : Pos} {v : Value} {Q : Value → Shared → Prop} (I : In w s₀ L m N s.heap s.gens s.os) (e : nsIn (K w.params) 3 x = some (some v)) (h : Q v s)
    (hk : sc.kind = .function := by rfl) (hx : (envOf nm sc L a cd).kindOf x = some .globalImplicit := by rfl) (hd : (x == ("__debug__" : Str)) = false := by decide) :
    wpAny M A (eval (.Name x pos) (envOf nm sc L a cd)) Q E s := by
  obtain ⟨mg, n⟩ := ns_of I.ok.k (k3 w.params)
  exact Calls.Name_function_global hk hx (Calls.loadGlobal_global (env := envOf nm sc L a cd) n (ns_val I.ok.k n e) h) hd
-- a built-in name
theorem biv {x : Str} {pos : Pos} {v : Value} {Q : Value → Shared → Prop} (I : In w s₀ L m N s.heap s.gens s.os) (e : nsIn (K w.params) 3 x = some none) (e' : bootBuiltins x = some v) (h : Q v s)
    (hk : sc.kind = .function := by rfl) (hx : (envOf nm sc L a cd).kindOf x = some .globalImplicit := by rfl) (hd : (x == ("__debug__" : Str)) = false := by decide) (hn : x ≠ ("__name__" : Str) := by decide +kernel) :
    wpAny M A (eval (.Name x pos) (envOf nm sc L a cd)) Q E s := by
  obtain ⟨mg, n⟩ := ns_of I.ok.k (k3 w.params)
  obtain ⟨mb, n', hb⟩ := I.ok.b.ns
  exact Calls.Name_function_global hk hx (Calls.loadGlobal_builtin (env := envOf nm sc L a cd) n (ns_val I.ok.k n e) n' ((hb _ hn).trans e') h) hd
end

section
variable {w : World} {s : Shared}
-- a def's call: its frame
theorem enter {A : Around} {n : Nat} {f : Addr} {name qual : Str} {params : Arguments} {body : List Stmt} {scope : Scope} {dV kV doc pm cdv ct : Value} {an od : Option Addr} {args : Args} {binds : List (Str × Value)} {R : Result → Shared → Prop}
    (fit : Fit n A) (ok : Ok w s.heap)
    (hl : (K w.params).lookup f = some { cls := .type "function", dict := od, data := .func (fnOf name qual params body scope dV kV doc pm an cdv ct) })
    (hcd : codeIn (K w.params) cdv qual = true) (hbind : BindsTo s (fnOf name qual params body scope dV kV doc pm an cdv ct) args binds)
    (hloc : (binds.all fun x => decide (scope.names.lookup x.1 = some .local)) = true) (hcell : ∀ x ∈ scope.names, x.2 ≠ .cell)
    (h : ∀ s', In w s s.heap.objs.size (fun x => binds.reverse.lookup x) [] s'.heap s'.gens s'.os → (∀ b o, s.heap.get? b = some o → s'.heap.get? b = some o) →
      wpAny (model PW w) (A.deeper (envOf qual scope s.heap.objs.size f cdv)) (execs body (envOf qual scope s.heap.objs.size f cdv))
        (fun fl s' => R (.ok (.ret (match fl with | .ret v => v | _ => .none))) s') (fun _ _ => False) s')
    (hco : scope.isCoroutine = false) (hgen : scope.isGenerator = false) (hk : scope.kind = .function) : codeAny (model PW w) A (.call (.ref f) args) R s := by
  refine codeAny_call_def (fd := fnOf name qual params body scope dV kV doc pm an cdv ct) (body := body) (binds := binds) fit.room (ok.k _ _ hl) rfl ok.nolimit (codeRec_of ok.k hcd) rfl hbind hcell (locs hloc) (fun h₁ hns hk₁ => ?_) hco hgen hk
  exact wpAny_mono (h { s with heap := h₁, toks := s.toks + binds.length } ⟨hns, by
    cases q : s.heap.get? s.heap.objs.size with
    | none => rfl
    | some o => exact absurd (Heap.lt_size q) (Nat.lt_irrefl _), ok, .of_keep hk₁, fun b o e => ⟨o, hk₁ b o e⟩, rfl, rfl, ok.keeps hk₁, fun _ hp => nomatch hp⟩ hk₁) (fun _ _ x => x) (fun _ _ x => x.elim)
end
theorem g_law_hit (P : Params) : nsIn (K P) 3 ("_law_hit" : Str) = some (some (.ref 177)) := by kernel_rfl
theorem g_search_reverse (P : Params) : nsIn (K P) 3 ("search_reverse" : Str) = some (some (.ref 28)) := by kernel_rfl
theorem g_Pair (P : Params) : nsIn (K P) 3 ("Pair" : Str) = some (some (.ref 162)) := by kernel_rfl
theorem g_law_text (P : Params) : nsIn (K P) 3 ("_law_text" : Str) = some (some (.ref 170)) := by kernel_rfl
theorem g_law_spans (P : Params) : nsIn (K P) 3 ("_law_spans" : Str) = some (some (.ref 199)) := by kernel_rfl
theorem g_law_told (P : Params) : nsIn (K P) 3 ("_law_told" : Str) = some (some (.ref 213)) := by kernel_rfl
theorem g_law_prog (P : Params) : nsIn (K P) 3 ("_law_prog" : Str) = some (some (.ref 192)) := by kernel_rfl
theorem g_law_due (P : Params) : nsIn (K P) 3 ("_law_due" : Str) = some (some (.ref 218)) := by kernel_rfl
theorem g_law_last (P : Params) : nsIn (K P) 3 ("_law_last" : Str) = some (some (.ref 206)) := by kernel_rfl
theorem g_law_search (P : Params) : nsIn (K P) 3 ("_law_search" : Str) = some (some (.ref 185)) := by kernel_rfl
theorem gn_len (P : Params) : nsIn (K P) 3 ("len" : Str) = some none := by kernel_rfl
theorem gb_len : bootBuiltins ("len" : Str) = some (.builtin "len") := by kernel_rfl
theorem gn_range (P : Params) : nsIn (K P) 3 ("range" : Str) = some none := by kernel_rfl
theorem gb_range : bootBuiltins ("range" : Str) = some (.type "range") := by kernel_rfl
theorem gn_TypeError (P : Params) : nsIn (K P) 3 ("TypeError" : Str) = some none := by kernel_rfl
theorem gb_TypeError : bootBuiltins ("TypeError" : Str) = some (.type "TypeError") := by kernel_rfl
theorem gn_map (P : Params) : nsIn (K P) 3 ("map" : Str) = some none := by kernel_rfl
theorem gb_map : bootBuiltins ("map" : Str) = some (.type "map") := by kernel_rfl
theorem gn_str (P : Params) : nsIn (K P) 3 ("str" : Str) = some none := by kernel_rfl
theorem gb_str : bootBuiltins ("str" : Str) = some (.type "str") := by kernel_rfl
end Mine

end
section
open PySem PySem.W PySem.W.X PyProof.Rows PySem.Calls
set_option maxRecDepth 100000
namespace Mine
theorem made_weaken {h₀ h₁ h : Heap} {objs : List (Addr × Obj)} (x : Made h₁ h objs) (t : ∀ b o, h₀.get? b = some o → ∃ o', h₁.get? b = some o') : Made h₀ h objs := fun p hp => by
  obtain ⟨e, c, d⟩ := x p hp
  refine ⟨e, c, d.imp (fun d => ?_) id⟩
  cases q : h₀.get? p.1 with
  | none => rfl
  | some o => obtain ⟨o', e'⟩ := t _ _ q; rw [d] at e'; cases e'
noncomputable def ch (t : Str) (i : Nat) : Nat := t.cps.getD i 0
noncomputable def NoHit (t : Str) (st : Nat) : Prop := ∀ i, st ≤ i → i < t.length → ch t i ≠ 61
noncomputable def HitR (t : Str) (st f b : Nat) : Prop :=
  ∃ p, st ≤ p ∧ p < t.length ∧ ch t p = 61 ∧ (∀ i, st ≤ i → i < p → ch t i ≠ 61) ∧ st ≤ f ∧ f ≤ p ∧ (∀ i, f ≤ i → i < p → ch t i = 32) ∧ (f = st ∨ ch t (f - 1) ≠ 32) ∧
    p < b ∧ b ≤ t.length ∧ (∀ i, p < i → i < b → ch t i = 32) ∧ (b = t.length ∨ ch t b ≠ 32)
noncomputable def SearchPost (w : World) (s : Shared) (t : Str) (st : Nat) (v : Value) (s' : Shared) : Prop :=
  (NoHit t st ∧ v = .none ∧ Step s s' ∧ Ok w s'.heap) ∨ ∃ f b : Nat, HitR t st f b ∧ HitPost w s f b v s'

-- what the search's first loop keeps
noncomputable abbrev Inv1 (w : World) (s₀ : Shared) (L : Addr) (t : Str) (st p : Nat) (f : Nat) (h : Heap) (g : Array GenState) (o : OsState) : Prop := (∃ m tt ts tp tf, In w s₀ L m [] h g o ∧ m ("chars" : Str) = some (.str t tt) ∧ m ("start" : Str) = some (.int st ts) ∧ m ("place" : Str) = some (.int p tp) ∧ m ("first" : Str) = some (.int f tf)) ∧ (st ≤ f) ∧ (f ≤ p) ∧ (∀ i, f ≤ i → i < p → ch t i = 32)
theorem sp_eq : Str.ofString " " = ⟨#[32]⟩ := by decide
theorem item_sp {t : Str} {i : Int} {n : Nat} (h0 : 0 ≤ i) (h1 : i < t.length) (hn : n = i.toNat) : (Txt.item t i == Str.ofString " ") = decide (ch t n = 32) := by
  rw [item_at h0 h1 hn, sp_eq]
  unfold ch
  generalize t.cps.getD n 0 = c
  by_cases h : c = 32
  · subst h; rfl
  · have : ((⟨#[c]⟩ : Str) == ⟨#[32]⟩) = false := by
      rw [beq_eq_false_iff_ne]
      intro e
      injection e with e
      injection e with e
      injection e with e
      exact h e
    rw [this, decide_eq_false h]
noncomputable abbrev Inv2 (w : World) (s₀ : Shared) (L : Addr) (t : Str) (f p : Nat) (b : Nat) (h : Heap) (g : Array GenState) (o : OsState) : Prop := (∃ m tt tf tb, In w s₀ L m [] h g o ∧ m ("chars" : Str) = some (.str t tt) ∧ m ("first" : Str) = some (.int f tf) ∧ m ("behind" : Str) = some (.int b tb)) ∧ (p < b) ∧ (b ≤ t.length) ∧ (∀ i, p < i → i < b → ch t i = 32)
section
set_option maxHeartbeats 4000000 in
theorem search_code {A : Around} {n : Nat} (fit : Fit (n + 1) A) (w : World) (s : Shared) (t : Str) (st : Nat) (tt ts : Tok) (ok : Ok w s.heap) (hst : st ≤ t.length) (hn : t.length ≤ 1048576) (args : Args)
    (hbind : BindsTo s (fnOf ⟨#[95, 108, 97, 119, 95, 115, 101, 97, 114, 99, 104]⟩ ⟨#[95, 108, 97, 119, 95, 115, 101, 97, 114, 99, 104]⟩ (parsOf 10) (bodyOf 10) (scopeOf 10) (.ref 178) .none .none (.str "law_il0124_01" 422) none (.ref 184) .none) args [("chars", .str t tt), ("start", .int st ts)]) :
    codeAny (model PW w) A (.call (.ref 185) args) (fun r s' => ∃ v, r = .ok (.ret v) ∧ SearchPost w s t st v s') s := by
  refine' enter (name := ⟨#[95, 108, 97, 119, 95, 115, 101, 97, 114, 99, 104]⟩) (qual := ⟨#[95, 108, 97, 119, 95, 115, 101, 97, 114, 99, 104]⟩) (params := parsOf 10) (body := _) (scope := _) (dV := .ref 178) (kV := .none) (doc := .none) (pm := .str "law_il0124_01" 422) (cdv := .ref 184) (ct := .none) (an := none) (od := none)
    (binds := [("chars", .str t tt), ("start", .int st ts)]) fit ok ?hl ?hcd ?hb ?hloc ?hcell ?h ?h1 ?h2 ?h3
  case hl => exact (by kernel_rfl : (K w.params).lookup 185 = some { cls := .type "function", data := .func (fnOf ⟨#[95, 108, 97, 119, 95, 115, 101, 97, 114, 99, 104]⟩ ⟨#[95, 108, 97, 119, 95, 115, 101, 97, 114, 99, 104]⟩ (parsOf 10) (bodyOf 10) (scopeOf 10) (.ref 178) .none .none (.str "law_il0124_01" 422) none (.ref 184) .none) })
  case hcd => kernel_rfl
  case hloc => rfl
  case hcell => decide
  case h1 => rfl
  case h2 => rfl
  case h3 => rfl
  case hb => exact hbind
  case h =>
    intro s1 I1 k1
    generalize hB : bodyOf 10 = B
    generalize hS : scopeOf 10 = S
    conv at hB => lhs; whnf
    conv at hS => lhs; whnf
    subst hB hS
    (repeat' (first | ((with_reducible show wpAny _ _ (eval (Expr.Name _ _) _) _ _ _); first | with_reducible (first | refine ldv (by assumption) (by assumption) ?_ | refine ldv (by assumption) rfl ?_ | refine glv (by assumption) (g_law_hit _) ?_ | refine biv (by assumption) (gn_len _) gb_len ?_) | (first | refine ldv (by assumption) (by assumption) ?_ | refine ldv (by assumption) rfl ?_ | refine glv (by assumption) (g_law_hit _) ?_ | refine biv (by assumption) (gn_len _) gb_len ?_)) | ((with_reducible show wpAny _ _ (storeName _ _ _) _ _ _); first | with_reducible ((refine stv (by assumption) ?_; intro _ _ _)) | ((refine stv (by assumption) ?_; intro _ _ _))) | walk1))
    · rename_i I2 _ hlt
      rcases StrLaws.find3_spec t 61 st with ⟨_, hno⟩ | ⟨k, hk, _⟩
      · refine .inl ⟨fun i h1 h2 => hno i ?_ h2, rfl, ⟨I2.ext, I2.there, I2.gens, I2.os⟩, I2.ok⟩
        have : fromIndex t.length (st : Int) = st := by unfold fromIndex; rw [if_neg (by omega)]; omega
        omega
      · have : Txt.find3 t (Str.ofString "=") st = k := hk
        omega
    · rename_i I2 _ hge s2 I3 _
      obtain ⟨p, hp, hp1, hp2, hp3, hp4⟩ : ∃ k : Nat, Txt.find3 t (Str.ofString "=") st = k ∧ st ≤ k ∧ k < t.length ∧ ch t k = 61 ∧ ∀ v, st ≤ v → v < k → ch t v ≠ 61 := by
        have e : fromIndex t.length (st : Int) = st := by unfold fromIndex; rw [if_neg (by omega)]; omega
        rcases StrLaws.find3_spec t 61 st with ⟨h0, _⟩ | ⟨k, hk, h1, h2, h3, h4⟩
        · have : Txt.find3 t (Str.ofString "=") st = -1 := h0
          omega
        · rw [e] at h1 h4
          exact ⟨k, hk, h1, h2, h3, h4⟩
      refine wpAny_While (codeAny_mono (R := fun r s' => r = .ok .next ∧ ∃ f, Inv1 w s s.heap.objs.size t st p f s'.heap s'.gens s'.os ∧ (f = st ∨ ch t (f - 1) ≠ 32)) (codeAny_whileLoop (I := fun f s' => Inv1 w s s.heap.objs.size t st p f s'.heap s'.gens s'.os) ?turn p ?init) ?cont)
      case init =>
        exact ⟨⟨_, _, _, _, _, I3, rfl, rfl, congrArg some (congrArg (Value.int · _) hp), congrArg some (congrArg (Value.int · _) hp)⟩, hp1, Nat.le_refl _, fun i a b => absurd a (by omega)⟩
      case turn =>
        rintro f s4 ⟨⟨m, _, _, _, _, I, hc, hs, hpl, hf⟩, g1, g2, g3⟩
        (repeat' (first | ((with_reducible show wpAny _ _ (eval (Expr.Name _ _) _) _ _ _); first | with_reducible (first | refine ldv (by assumption) (by assumption) ?_ | refine ldv (by assumption) rfl ?_ | refine glv (by assumption) (g_law_hit _) ?_ | refine biv (by assumption) (gn_len _) gb_len ?_) | (first | refine ldv (by assumption) (by assumption) ?_ | refine ldv (by assumption) rfl ?_ | refine glv (by assumption) (g_law_hit _) ?_ | refine biv (by assumption) (gn_len _) gb_len ?_)) | ((with_reducible show wpAny _ _ (storeName _ _ _) _ _ _); first | with_reducible ((refine stv (by assumption) ?_; intro _ _ _)) | ((refine stv (by assumption) ?_; intro _ _ _))) | ((with_reducible show wpAny _ _ _ _ _ _); walk1) | ((with_reducible show ite _ _ _); walk1)))
        · rename_i q1 _ q2 s5 I5 _
          rw [item_sp (n := f - 1) (by omega) (by omega) (by omega)] at q2
          exact ⟨f - 1, by omega, ⟨_, _, _, _, _, I5, (upd_ne (by decide)).trans hc, (upd_ne (by decide)).trans hs, (upd_ne (by decide)).trans hpl, upd_same.trans (congrArg some (congrArg (Value.int · _) (by omega)))⟩, by omega, by omega, fun i a b => by
            by_cases e : i = f - 1
            · subst e; exact of_decide_eq_true q2
            · exact g3 i (by omega) b⟩
        · rename_i q1 _ q2
          rw [item_sp (n := f - 1) (by omega) (by omega) (by omega)] at q2
          exact ⟨rfl, f, ⟨⟨_, _, _, _, _, I, hc, hs, hpl, hf⟩, g1, g2, g3⟩, .inr (of_decide_eq_false q2)⟩
        · exact ⟨rfl, f, ⟨⟨_, _, _, _, _, I, hc, hs, hpl, hf⟩, g1, g2, g3⟩, .inl (by omega)⟩
      case cont =>
        rintro r s4 ⟨rfl, f, ⟨⟨m, _, _, _, _, I, hc, hs, hpl, hf⟩, g1, g2, g3⟩, g4⟩
        dsimp only
        (repeat' (first | ((with_reducible show wpAny _ _ (eval (Expr.Name _ _) _) _ _ _); first | with_reducible (first | refine ldv (by assumption) (by assumption) ?_ | refine ldv (by assumption) rfl ?_ | refine glv (by assumption) (g_law_hit _) ?_ | refine biv (by assumption) (gn_len _) gb_len ?_) | (first | refine ldv (by assumption) (by assumption) ?_ | refine ldv (by assumption) rfl ?_ | refine glv (by assumption) (g_law_hit _) ?_ | refine biv (by assumption) (gn_len _) gb_len ?_)) | ((with_reducible show wpAny _ _ (storeName _ _ _) _ _ _); first | with_reducible ((refine stv (by assumption) ?_; intro _ _ _)) | ((refine stv (by assumption) ?_; intro _ _ _))) | ((with_reducible show wpAny _ _ _ _ _ _); walk1) | ((with_reducible show ite _ _ _); walk1)))
        rename_i s5 I5 _
        refine wpAny_While (codeAny_mono (R := fun r s' => r = .ok .next ∧ ∃ b, Inv2 w s s.heap.objs.size t f p b s'.heap s'.gens s'.os ∧ (b = t.length ∨ ch t b ≠ 32)) (codeAny_whileLoop (I := fun k s' => ∃ b, k = t.length - b ∧ Inv2 w s s.heap.objs.size t f p b s'.heap s'.gens s'.os) ?turn (t.length - (p + 1)) ?init) ?cont)
        case init =>
          exact ⟨p + 1, rfl, ⟨_, _, _, _, I5, (upd_ne (by decide)).trans hc, (upd_ne (by decide)).trans hf, upd_same.trans (congrArg some (congrArg (Value.int · _) (by omega)))⟩, by omega, by omega, fun i a b => absurd a (by omega)⟩
        case turn =>
          clear I5 I hc hs hpl hf
          rintro k s4 ⟨b, rfl, ⟨m, _, _, _, I, hc, hf, hb⟩, g1, g2, g3⟩
          (repeat' (first | ((with_reducible show wpAny _ _ (eval (Expr.Name _ _) _) _ _ _); first | with_reducible (first | refine ldv (by assumption) (by assumption) ?_ | refine ldv (by assumption) rfl ?_ | refine glv (by assumption) (g_law_hit _) ?_ | refine biv (by assumption) (gn_len _) gb_len ?_) | (first | refine ldv (by assumption) (by assumption) ?_ | refine ldv (by assumption) rfl ?_ | refine glv (by assumption) (g_law_hit _) ?_ | refine biv (by assumption) (gn_len _) gb_len ?_)) | ((with_reducible show wpAny _ _ (storeName _ _ _) _ _ _); first | with_reducible ((refine stv (by assumption) ?_; intro _ _ _)) | ((refine stv (by assumption) ?_; intro _ _ _))) | ((with_reducible show wpAny _ _ _ _ _ _); walk1) | ((with_reducible show ite _ _ _); walk1)))
          · rename_i q1 _ q2 s5 I5 _
            rw [item_sp (n := b) (by omega) (by omega) (by omega)] at q2
            exact ⟨t.length - (b + 1), by omega, b + 1, rfl, ⟨_, _, _, _, I5, (upd_ne (by decide)).trans hc, (upd_ne (by decide)).trans hf, upd_same.trans (congrArg some (congrArg (Value.int · _) (by omega)))⟩, by omega, by omega, fun i a c => by
              by_cases e : i = b
              · subst e; exact of_decide_eq_true q2
              · exact g3 i a (by omega)⟩
          · rename_i q1 _ q2
            rw [item_sp (n := b) (by omega) (by omega) (by omega)] at q2
            exact ⟨rfl, b, ⟨⟨_, _, _, _, I, hc, hf, hb⟩, g1, g2, g3⟩, .inr (of_decide_eq_false q2)⟩
          · exact ⟨rfl, b, ⟨⟨_, _, _, _, I, hc, hf, hb⟩, g1, g2, g3⟩, .inl (by omega)⟩
        case cont =>
          clear I5 I hc hs hpl hf
          rintro r s4 ⟨rfl, b, ⟨⟨m, _, _, _, I, hc, hf, hb⟩, k1, k2, k3⟩, k4⟩
          dsimp only
          refine wpAny_execs_cons (wpAny_Return_some (Call_ (glv I (g_law_hit _) (callWith_K I.ok.k (by kernel_rfl) ?_))))
          (repeat' (first | ((with_reducible show wpAny _ _ (eval (Expr.Name _ _) _) _ _ _); first | with_reducible (first | refine ldv (by assumption) (by assumption) ?_ | refine ldv (by assumption) rfl ?_ | refine glv (by assumption) (g_law_hit _) ?_ | refine biv (by assumption) (gn_len _) gb_len ?_) | (first | refine ldv (by assumption) (by assumption) ?_ | refine ldv (by assumption) rfl ?_ | refine glv (by assumption) (g_law_hit _) ?_ | refine biv (by assumption) (gn_len _) gb_len ?_)) | ((with_reducible show wpAny _ _ (storeName _ _ _) _ _ _); first | with_reducible ((refine stv (by assumption) ?_; intro _ _ _)) | ((refine stv (by assumption) ?_; intro _ _ _))) | ((with_reducible show wpAny _ _ _ _ _ _); walk1) | ((with_reducible show ite _ _ _); walk1)))
          refine ⟨I.ok.k, wpAny_mono (hit_call fit.deeper w _ f b _ _ _ I.ok) (fun v s6 hp => ?_) (fun _ _ x => x)⟩
          obtain ⟨a, objs, rfl, st6, ok6, md, ht⟩ := hp
          refine ⟨_, rfl, .inr ⟨f, b, ⟨p, hp1, hp2, hp3, hp4, g1, g2, g3, g4, k1, k2, k3, k4⟩, a, objs, rfl, I.step.trans st6, ok6, made_weaken md I.there, ht⟩⟩
theorem search_call {A : Around} {n : Nat} (fit : Fit (n + 1) A) (w : World) (s : Shared) (t : Str) (st : Nat) (tt ts : Tok) (ok : Ok w s.heap) (hst : st ≤ t.length) (hn : t.length ≤ 1048576) (E : Value → Shared → Prop) :
    wpAny (model PW w) A (call (.ref 185) [.str t tt, .int st ts]) (SearchPost w s t st) E s :=
  wpAny_call (codeAny_mono (search_code fit w s t st tt ts ok hst hn _ (BindsTo.of_defaults rfl (ok.k _ _ (by kernel_rfl : (K w.params).lookup 178 = some { cls := .type "tuple", data := .seq #[.int 0 441] })) rfl rfl rfl)) fun r s' h => by obtain ⟨v, rfl, h⟩ := h; exact h)
theorem search_call0 {A : Around} {n : Nat} (fit : Fit (n + 1) A) (w : World) (s : Shared) (t : Str) (tt : Tok) (ok : Ok w s.heap) (hn : t.length ≤ 1048576) (E : Value → Shared → Prop) :
    wpAny (model PW w) A (call (.ref 185) [.str t tt]) (SearchPost w s t 0) E s :=
  wpAny_call (codeAny_mono (search_code fit w s t 0 tt 441 ok (Nat.zero_le _) hn _ (BindsTo.of_defaults rfl (ok.k _ _ (by kernel_rfl : (K w.params).lookup 178 = some { cls := .type "tuple", data := .seq #[.int 0 441] })) rfl rfl rfl)) fun r s' h => by obtain ⟨v, rfl, h⟩ := h; exact h)
end
end Mine

end
section
open PySem PySem.W PySem.W.X PyProof.Rows PySem.Calls
set_option maxRecDepth 100000
namespace Mine
theorem fn_ga : typeLookup (.type "function") "__getattribute__" = pure (some (.builtin "object.__getattribute__")) := by rw [typeLookup_type, builtinLookup_eq_fast]; kernel_rfl
theorem fn_gt : typeLookup (.type "function") "__getattr__" = pure none := by rw [typeLookup_type, builtinLookup_eq_fast]; kernel_rfl
theorem fn_bool : typeLookup (.type "function") "__bool__" = pure none := by rw [typeLookup_type, builtinLookup_eq_fast]; kernel_rfl
theorem fn_len : typeLookup (.type "function") "__len__" = pure none := by rw [typeLookup_type, builtinLookup_eq_fast]; kernel_rfl
theorem fn_span : typeLookup (.type "function") ⟨#[115, 112, 97, 110]⟩ = pure none := by rw [typeLookup_type, builtinLookup_eq_fast]; kernel_rfl
theorem fn_search : typeLookup (.type "function") ⟨#[115, 101, 97, 114, 99, 104]⟩ = pure none := by rw [typeLookup_type, builtinLookup_eq_fast]; kernel_rfl
theorem ga_type : typeOf (.builtin "object.__getattribute__") = pure (.type "wrapper_descriptor") := by show builtinType _ = _; rw [builtinType_eq_fast]; kernel_rfl
section
variable {prog : Program} {w : World} {A : Around} {E : Value → Shared → Prop} {s : Shared} {a d : Addr} {o : Obj} {dt : PySem.Data}
theorem truthy_fn {M : Model} {Q : Bool → Shared → Prop} (ho : s.heap.get? a = some o) (hc : o.cls = .type "function") (h : Q true s) : wpAny M A (truthy (.ref a)) Q E s := by
  have hT : s.TypeIs (.ref a) "function" := ⟨o, ho, hc⟩
  unfold truthy
  first
    | refine wpAny_bind (wpAny_callSpecial?_none (name := Str.ofString "__bool__") hT fn_bool ?_)
    | refine wpAny_bind (wpAny_pure (wpAny_bind (wpAny_callSpecial?_none (name := Str.ofString "__bool__") hT fn_bool ?_)))
  first
    | refine wpAny_bind (wpAny_specialOf (name := Str.ofString "__len__") hT fn_len ?_)
    | refine wpAny_bind (wpAny_pure (wpAny_bind (wpAny_specialOf (name := Str.ofString "__len__") hT fn_len ?_)))
  first
    | exact wpAny_pure h
    | exact wpAny_bind (wpAny_pure (wpAny_pure h))
end
section
theorem same_end {v : Value} {s s' : Shared} (e : s'.heap = s.heap) (g : s'.gens = s.gens) (o : s'.os = s.os) : v = v ∧ (∀ b o, s.heap.get? b = some o → s'.heap.get? b = some o) ∧ s'.gens = s.gens ∧ s'.os = s.os := ⟨rfl, fun _ _ q => by rw [e]; exact q, g, o⟩
local macro_rules | `(tactic| x_close) => `(tactic| exact same_end rfl rfl rfl)
set_option maxHeartbeats 0 in
theorem ga_span {w : World} {s : Shared} {a d : Addr} {v : Addr} {f0 : FuncData} {hs : Int} {tk u : Tok} (KX : (K w.params).In s.heap) (h1 : s.heap.get? a = some { cls := .type "function", dict := some d, data := .func f0 })
    (h2 : s.heap.get? d = some { cls := .type "dict", data := .dict #[{ hash := hs, key := .str ⟨#[115, 112, 97, 110]⟩ tk, val := .ref v }] 1 }) (E : Value → Shared → Prop) :
    wpAny (model PW w) A0 (call (.builtin "object.__getattribute__") [.ref a, .str ⟨#[115, 112, 97, 110]⟩ u]) (fun r s' => r = .ref v ∧ (∀ b o, s.heap.get? b = some o → s'.heap.get? b = some o) ∧ s'.gens = s.gens ∧ s'.os = s.os) E s := by
  x_run
set_option maxHeartbeats 0 in
theorem ga_search {w : World} {s : Shared} {a d : Addr} {v : Addr} {f0 : FuncData} {hs : Int} {tk u : Tok} (KX : (K w.params).In s.heap) (h1 : s.heap.get? a = some { cls := .type "function", dict := some d, data := .func f0 })
    (h2 : s.heap.get? d = some { cls := .type "dict", data := .dict #[{ hash := hs, key := .str ⟨#[115, 101, 97, 114, 99, 104]⟩ tk, val := .ref v }] 1 }) (E : Value → Shared → Prop) :
    wpAny (model PW w) A0 (call (.builtin "object.__getattribute__") [.ref a, .str ⟨#[115, 101, 97, 114, 99, 104]⟩ u]) (fun r s' => r = .ref v ∧ (∀ b o, s.heap.get? b = some o → s'.heap.get? b = some o) ∧ s'.gens = s.gens ∧ s'.os = s.os) E s := by
  x_run
end
-- an attribute of a function object, by what the built-in's call gives
theorem getMethod_fn {M : Model} {A : Around} {E : Value → Shared → Prop} {s : Shared} {a v : Addr} {o : Obj} {name : Str} {pl : Sem Bool} {Q : Value × List Value → Shared → Prop} (ho : s.heap.get? a = some o) (hc : o.cls = .type "function")
    (hn : typeLookup (.type "function") name = pure none)
    (hcall : ∀ (s₁ : Shared) (u : Tok), s₁.heap = s.heap → s₁.gens = s.gens → s₁.os = s.os → wpAny M A (call (.builtin "object.__getattribute__") [.ref a, .str name u]) (fun r s' => r = .ref v ∧ Q (.ref v, []) s') (fun _ _ => False) s₁) :
    wpAny M A (getMethod (.ref a) name pl) Q E s := by
  have hT : s.TypeIs (.ref a) "function" := ⟨o, ho, hc⟩
  unfold getMethod
  refine wpAny_bind (wpAny_specialOf hT fn_ga ?_)
  show wpAny M A (if (Manifest.canonical "object.__getattribute__" != "object.__getattribute__") = true then _ else _) Q E s
  rw [show (Manifest.canonical "object.__getattribute__" != "object.__getattribute__") = false by decide +kernel, if_neg Bool.false_ne_true]
  refine wpAny_bind (wpAny_specialOf hT fn_gt ?_)
  refine wpAny_bind (wpAny_specialOf hT hn ?_)
  show wpAny M A (do return (← getAttr (.ref a) name, [])) Q E s
  unfold getAttr getAttrBy
  refine wpAny_bind (wpAny_bind (m := mkText name) (wpAny_bind (wpAny_fresh (wpAny_pure ?_))))
  refine wpAny_holding (wpAny_bind (wpAny_typeOf (T := "function") ⟨o, ho, hc⟩ ?_))
  refine wpAny_bind (wpAny_of_eq fn_ga ?_)
  show wpAny M A (getAttrByItsOwn (.ref a) (.str name s.toks) (.type "function") (.builtin "object.__getattribute__") true false) _ E _
  unfold getAttrByItsOwn
  refine wpAny_bind (wpAny_pure ?_)
  refine wpAny_bind (wpAny_attempt ?_)
  show wpAny M A (boundAndCalled (.builtin "object.__getattribute__") (.ref a) (.str name s.toks)) _ _ _
  unfold boundAndCalled bindSpecial
  refine wpAny_bind (wpAny_bind (wpAny_of_eq ga_type (wpAny_pure ?_)))
  refine wpAny_mono (hcall { s with toks := s.toks + 1 } s.toks rfl rfl rfl) (fun r s' hr => ?_) (fun _ _ x => x.elim)
  obtain ⟨rfl, hq⟩ := hr
  exact wpAny_pure (wpAny_pure hq)
end Mine

end
section
open PySem PySem.W PySem.W.X PyProof.Rows PySem.Calls
set_option maxRecDepth 100000
namespace Mine
theorem ext_of_mem2 {h₀ h : Heap} {o₁ : Obj} {news : List (Addr × Obj)} (D : Mem h₀ h [(187, o₁)] news) : Ext h₀ h := fun b o c e => D.keep b o e (by
  rcases c with c | c
  · rw [c]; rfl
  · have q2 : away [(187, o₁)] b = true := by
      show (!(Nat.beq 187 b) && true) = true
      have : Nat.beq 187 b = false := by
        cases q : Nat.beq 187 b with
        | false => rfl
        | true => exact absurd (Nat.eq_of_beq_eq_true q).symm c.2
      rw [this]; rfl
    rw [q2, Bool.or_true])
noncomputable def Prog (objs : List (Addr × Obj)) (a : Addr) : Prop :=
  ∀ h : Heap, (∀ p ∈ objs, h.get? p.1 = some p.2) → ∃ (d : Addr) (f0 : FuncData) (hs : Int) (tk : Tok),
      h.get? a = some { cls := .type "function", dict := some d, data := .func f0 } ∧
      h.get? d = some { cls := .type "dict", data := .dict #[{ hash := hs, key := .str ⟨#[115, 101, 97, 114, 99, 104]⟩ tk, val := .ref 185 }] 1 }
-- no list, no range's iterator
noncomputable def Calm (objs : List (Addr × Obj)) : Prop := ∀ p ∈ objs, p.2.cls ≠ .type "list" ∧ p.2.cls ≠ .type "range_iterator"
theorem calm_cons {a : Addr} {o : Obj} {objs : List (Addr × Obj)} {T : String} (e : o.cls = .type T) (n : (T != "list" && T != "range_iterator") = true) (r : Calm objs) : Calm ((a, o) :: objs) := fun p hp => by
  rcases List.mem_cons.mp hp with rfl | hp
  · rw [Bool.and_eq_true, bne_iff_ne, bne_iff_ne] at n
    constructor
    · intro q; rw [e] at q; injection q with q; exact n.1 q
    · intro q; rw [e] at q; injection q with q; exact n.2 q
  · exact r p hp
theorem calm_nil : Calm [] := fun _ hp => nomatch hp
noncomputable abbrev ProgPost (w : World) (s : Shared) (v : Value) (s' : Shared) : Prop :=
  ∃ a objs, v = .ref a ∧ Step s s' ∧ Ok w s'.heap ∧ Made s.heap s'.heap objs ∧ Calm objs ∧ Prog objs a
theorem prog_end {w : World} {s : Shared} {h : Heap} {d : Drawn} {t : Nat} {vs : Array Value} {a1 a0 : Addr} {f0 : FuncData} {hs : Int} {tk : Tok} {rest : List (Addr × Obj)} (ok : Ok w s.heap) (t0 : s.heap.get? 172 = some { cls := .none, data := .fields #[] })
    (D : Mem s.heap h [(187, { cls := .none, data := .fields vs })] ((a0, { cls := .type "dict", data := .dict #[{ hash := hs, key := .str ⟨#[115, 101, 97, 114, 99, 104]⟩ tk, val := .ref 185 }] 1 }) :: (a1, { cls := .type "function", dict := some a0, data := .func f0 }) :: rest)) : ProgPost w s (.ref a1) ⟨h, s.gens, d, t, s.os⟩ :=
  have X := ext_of_mem2 D
  ⟨a1, _, rfl, step_of_mem D X, ⟨K_keeps ok.k X, .inl (D.keep _ _ t0 rfl), ⟨_, D.atC 0 _ _ rfl⟩, ok.b.ext X⟩, made_new D 1 rfl rfl (made_new D 0 rfl rfl made_nil), calm_cons rfl (by decide) (calm_cons rfl (by decide) calm_nil), fun _ hx => ⟨_, _, _, _, has_at hx 0 rfl, has_at hx 1 rfl⟩⟩
section
local macro_rules | `(tactic| x_close) => `(tactic| exact prog_end (by assumption) (by assumption) (by assumption))
set_option maxHeartbeats 0 in
theorem prog1 (w : World) (s : Shared) (E : Value → Shared → Prop) (ok : Ok w s.heap) (t : s.heap.get? 172 = some { cls := .none, data := .fields #[] }) :
   (K3 w.params).In s.heap → wpAny (model PySem.Challenge.rw_il0124_01.prog w) A0 (call (.ref 192) []) (ProgPost w s) E s := by
  k_fill
  intro KX
  x_run
end
theorem prog_call {A : Around} {n : Nat} (fit : Fit n A) (w : World) (s : Shared) (E : Value → Shared → Prop) (ok : Ok w s.heap) (t : s.heap.get? 172 = some { cls := .none, data := .fields #[] })
    (u : s.heap.get? 187 = some { cls := .none, data := .fields #[] }) : wpAny (model PW w) A (call (.ref 192) []) (ProgPost w s) E s :=
  lift0 fit (prog1 w s E ok t (K3_in ok.k u))
end Mine

end
section
open PySem PySem.W PySem.W.X PyProof.Rows PySem.Calls
set_option maxRecDepth 100000
namespace Mine
theorem Step.of_keep {s s' : Shared} (k : ∀ b o, s.heap.get? b = some o → s'.heap.get? b = some o) (g : s'.gens = s.gens) (o : s'.os = s.os) : Step s s' := ⟨.of_keep k, fun b o e => ⟨o, k b o e⟩, g, o⟩
theorem In.keep {w : World} {s₀ s s' : Shared} {L : Addr} {m : LMap} {N} (I : In w s₀ L m N s.heap s.gens s.os) (k : ∀ b o, s.heap.get? b = some o → s'.heap.get? b = some o) (g : s'.gens = s.gens) (o : s'.os = s.os) :
    In w s₀ L m N s'.heap s'.gens s'.os := I.call (.of_keep k g o) (I.ok.keeps k)
theorem In.objs {w : World} {s₀ : Shared} {L : Addr} {m : LMap} {N objs : List (Addr × Obj)} {h : Heap} {g : Array GenState} {o : OsState} (I : In w s₀ L m N h g o) (x : ∀ p ∈ objs, p ∈ N) : ∀ p ∈ objs, h.get? p.1 = some p.2 := fun p hp => (I.has p (x p hp)).1

section
variable {w : World} {A : Around} {E : Value → Shared → Prop} {s s₀ : Shared} {L a pa : Addr} {m : LMap} {N pobjs objs : List (Addr × Obj)} {nm : Str} {sc : Scope} {cd : Value} {n : Nat}
theorem getm_prog {pl : Sem Bool} {Q : Value × List Value → Shared → Prop} (P : Prog pobjs pa) (fit : Fit n A) (I : In w s₀ L m N s.heap s.gens s.os) (hp : ∀ p ∈ pobjs, p ∈ N)
    (h : ∀ s', In w s₀ L m N s'.heap s'.gens s'.os → Q (.ref 185, []) s') : wpAny (model PW w) A (getMethod (.ref pa) ("search" : Str) pl) Q E s := by
  rw [show Str.ofString "search" = ⟨#[115, 101, 97, 114, 99, 104]⟩ by decide]
  obtain ⟨d, f0, hs, tk, h1, h2⟩ := P s.heap (I.objs hp)
  refine getMethod_fn (v := 185) h1 rfl fn_search fun s₁ u e1 e2 e3 => ?_
  refine wpAny_mono (lift0 fit (ga_search (s := s₁) (by rw [e1]; exact I.ok.k) (by rw [e1]; exact h1) (by rw [e1]; exact h2) (fun _ _ => False))) (fun r s' hr => ?_) (fun _ _ x => x)
  obtain ⟨rfl, k, g, o⟩ := hr
  rw [e1] at k
  exact ⟨rfl, h s' (I.keep k (g.trans e2) (o.trans e3))⟩

theorem getm_hit {pl : Sem Bool} {f b : Int} {Q : Value × List Value → Shared → Prop} (H : Hit w objs a f b) (fit : Fit n A) (I : In w s₀ L m N s.heap s.gens s.os) (hp : ∀ p ∈ objs, p ∈ N)
    (h : ∀ s' sp fd, In w s₀ L m N s'.heap s'.gens s'.os → (∀ b o, s.heap.get? b = some o → s'.heap.get? b = some o) → s'.heap.get? sp = some { cls := .type "function", data := .func fd } →
      (∀ E : Value → Shared → Prop, wpAny (model PW w) A0 (call (.ref sp) []) (fun v s₂ => ∃ p tf tb, v = .ref p ∧ (∀ b o, s'.heap.get? b = some o → s₂.heap.get? b = some o) ∧ s'.heap.get? p = none ∧ s₂.gens = s'.gens ∧ s₂.os = s'.os ∧ s₂.heap.get? p = some (tupObj #[.int f tf, .int b tb])) E s') →
      Q (.ref sp, []) s') : wpAny (model PW w) A (getMethod (.ref a) ("span" : Str) pl) Q E s := by
  rw [show Str.ofString "span" = ⟨#[115, 112, 97, 110]⟩ by decide]
  obtain ⟨d, sp, f0, hs, tk, fd, h1, h2, h3, _⟩ := H s (I.objs hp) I.ok
  refine getMethod_fn (v := sp) h1 rfl fn_span fun s₁ u e1 e2 e3 => ?_
  refine wpAny_mono (lift0 fit (ga_span (s := s₁) (by rw [e1]; exact I.ok.k) (by rw [e1]; exact h1) (by rw [e1]; exact h2) (fun _ _ => False))) (fun r s' hr => ?_) (fun _ _ x => x)
  obtain ⟨rfl, k, g, o⟩ := hr
  rw [e1] at k
  have I' := I.keep k (g.trans e2) (o.trans e3)
  obtain ⟨d', sp', f0', hs', tk', fd', h1', h2', h3', h4'⟩ := H s' (I'.objs hp) I'.ok
  have q := (k _ _ h1).symm.trans h1'
  injection q with q; injection q with _ q; injection q with q
  subst q
  have q := (k _ _ h2).symm.trans h2'
  injection q with q; injection q with _ _ q; injection q with q; injection q with q; injection q with q _; injection q with _ _ q; injection q with q
  subst q
  exact ⟨rfl, h s' sp fd' I' k h3' h4'⟩
-- the call of what stands behind span
theorem callSpan {pos : Pos} {sp : Addr} {fd : FuncData} {f b : Int} {Q : Value → Shared → Prop} (fit : Fit n A) (I : In w s₀ L m N s.heap s.gens s.os) (hsp : s.heap.get? sp = some { cls := .type "function", data := .func fd })
    (hc : ∀ E : Value → Shared → Prop, wpAny (model PW w) A0 (call (.ref sp) []) (fun v s₂ => ∃ p tf tb, v = .ref p ∧ (∀ b o, s.heap.get? b = some o → s₂.heap.get? b = some o) ∧ s.heap.get? p = none ∧ s₂.gens = s.gens ∧ s₂.os = s.os ∧ s₂.heap.get? p = some (tupObj #[.int f tf, .int b tb])) E s)
    (h : ∀ s' p tf tb, In w s₀ L m N s'.heap s'.gens s'.os → s'.heap.get? p = some (tupObj #[.int f tf, .int b tb]) → (∀ b o, s.heap.get? b = some o → s'.heap.get? b = some o) → s.heap.get? p = none → Q (.ref p) s') :
    wpAny (model PW w) A (callWith pos (.ref sp) [] [] []) Q E s := by
  refine callWith_function (o := { cls := .type "function", data := .func fd }) (fd := fd) (PyProof.Rows.evalArgs_none ⟨⟨hsp, rfl⟩, ?_⟩)
  refine wpAny_mono (lift0 fit (hc E)) (fun v s' hv => ?_) (fun _ _ x => x)
  obtain ⟨p, tf, tb, rfl, k, fr, g, o, e⟩ := hv
  exact h s' p tf tb (I.keep k g o) e k fr
theorem callSpanT {pos : Pos} {sp : Addr} {fd : FuncData} {f b : Int} {Q : Value → Shared → Prop} (fit : Fit n A) (I : In w s₀ L m N s.heap s.gens s.os) (hsp : s.heap.get? sp = some { cls := .type "function", data := .func fd })
    (hc : ∀ E : Value → Shared → Prop, wpAny (model PW w) A0 (call (.ref sp) []) (fun v s₂ => ∃ p tf tb, v = .ref p ∧ (∀ b o, s.heap.get? b = some o → s₂.heap.get? b = some o) ∧ s.heap.get? p = none ∧ s₂.gens = s.gens ∧ s₂.os = s.os ∧ s₂.heap.get? p = some (tupObj #[.int f tf, .int b tb])) E s)
    (h : ∀ s' p tf tb, In w s₀ L m ((p, tupObj #[.int f tf, .int b tb]) :: N) s'.heap s'.gens s'.os → Q (.ref p) s') :
    wpAny (model PW w) A (callWith pos (.ref sp) [] [] []) Q E s :=
  callSpan fit I hsp hc fun s' p tf tb I' e _ fr => h s' p tf tb (I.more (objs := [(p, tupObj #[.int f tf, .int b tb])]) I' fun q hq => by
    rcases List.mem_cons.mp hq with rfl | hq
    · exact ⟨e, rfl, .inl fr⟩
    · cases hq)
-- a pair taken apart into two names
theorem assign_pair {x y : Str} {px py tpos : Pos} {k : Nat} {p : Addr} {v1 v2 : Value} {Q : Unit → Shared → Prop} (I : In w s₀ L m N s.heap s.gens s.os) (ht : IsTup s.heap p #[v1, v2]) (hh : A.handled = none)
    (h : ∀ s', In w s₀ L (upd (upd m x v1) y v2) N s'.heap s'.gens s'.os → Q () s') (hk : sc.kind = .function := by rfl)
    (hl : (envOf nm sc L a cd).kindOf x = some .local := by rfl) (hl2 : (envOf nm sc L a cd).kindOf y = some .local := by rfl) :
    wpAny (model PW w) A (assign (.Tuple [.Name x px, .Name y py] k tpos) (envOf nm sc L a cd) (.ref p)) Q E s := by
  rw [arm_assign_Tuple]
  refine wpAny_bind (wpAny_standAt ?_)
  show wpAny _ A (unpack (.ref p) [(false, assign (.Name x px) (envOf nm sc L a cd)), (false, assign (.Name y py) (envOf nm sc L a cd))]) Q E s
  unfold unpack
  refine wpAny_bind (wpAny_holding ?_)
  refine unpackItems_tuple (items := #[v1, v2]) hh ht fun h' he => ?_
  have k1 : ∀ b o, s.heap.get? b = some o → h'.get? b = some o := fun b o e => he b o (Nat.ne_of_lt (Heap.lt_size e)) e
  have I1 : In w s₀ L m N h' s.gens s.os := I.keep (s' := { s with heap := h' }) k1 rfl rfl
  show wpAny _ A (assignInOrder [assign (.Name x px) (envOf nm sc L a cd), assign (.Name y py) (envOf nm sc L a cd)] [v1, v2]) Q E _
  refine wpAny_bind (wpAny_holding (assign_Name (stv (s := { s with heap := h' }) I1 (fun s2 I2 _ => ?_) hk hl)))
  refine wpAny_bind (wpAny_holding (assign_Name (stv I2 (fun s3 I3 _ => ?_) hk hl2)))
  exact wpAny_pure (h s3 I3)
end
end Mine

end
section
open PySem PySem.W PySem.W.X PyProof.Rows PySem.Calls
set_option maxRecDepth 100000
namespace Mine
-- the hits of a text from a place on
inductive Chain (t : Str) : Nat → List (Nat × Nat) → Prop
  | nil {st : Nat} (h : NoHit t st) : Chain t st []
  | cons {st f b : Nat} {l : List (Nat × Nat)} (h : HitR t st f b) (r : Chain t b l) : Chain t st ((f, b) :: l)
theorem hit_lt {t : Str} {st f b : Nat} (h : HitR t st f b) : st ≤ f ∧ f < b ∧ b ≤ t.length := by
  obtain ⟨p, h1, h2, h3, h4, h5, h6, h7, h8, h9, h10, _⟩ := h; omega
theorem hit_unique {t : Str} {st f b f' b' : Nat} (h : HitR t st f b) (h' : HitR t st f' b') : f = f' ∧ b = b' := by
  obtain ⟨p, a1, a2, a3, a4, a5, a6, a7, a8, a9, a10, a11, a12⟩ := h
  obtain ⟨q, b1, b2, b3, b4, b5, b6, b7, b8, b9, b10, b11, b12⟩ := h'
  have e : p = q := by
    rcases Nat.lt_trichotomy p q with x | x | x
    · exact absurd a3 (b4 p a1 x)
    · exact x
    · exact absurd b3 (a4 q b1 x)
  subst e
  constructor
  · rcases Nat.lt_trichotomy f f' with x | x | x
    · rcases b8 with y | y
      · omega
      · exact absurd (a7 (f' - 1) (by omega) (by omega)) y
    · exact x
    · rcases a8 with y | y
      · omega
      · exact absurd (b7 (f - 1) (by omega) (by omega)) y
  · rcases Nat.lt_trichotomy b b' with x | x | x
    · rcases a12 with y | y
      · omega
      · exact absurd (b11 b (by omega) x) y
    · exact x
    · rcases b12 with y | y
      · omega
      · exact absurd (a11 b' (by omega) x) y
theorem hit_no {t : Str} {st f b : Nat} (h : HitR t st f b) (n : NoHit t st) : False := by
  obtain ⟨p, a1, a2, a3, _⟩ := h
  exact n p a1 a2 a3
theorem Chain.above {t : Str} {st : Nat} {l : List (Nat × Nat)} (h : Chain t st l) : ∀ p ∈ l, st < p.2 := by
  induction h with
  | nil => intro p hp; cases hp
  | cons h r ih =>
    intro p hp
    have := hit_lt h
    rcases List.mem_cons.mp hp with rfl | hp
    · show _ < _; simp only; omega
    · have := ih p hp; omega
noncomputable def lastLe (l : List (Nat × Nat)) (col : Int) : Option (Nat × Nat) := (l.filter fun p => decide ((p.2 : Int) ≤ col)).getLast?

theorem lastLe_cut {done tail : List (Nat × Nat)} {col : Int} (h1 : ∀ p ∈ done, (p.2 : Int) ≤ col) (h2 : ∀ p ∈ tail, ¬ (p.2 : Int) ≤ col) : lastLe (done ++ tail) col = done.getLast? := by
  unfold lastLe
  rw [List.filter_append, List.filter_eq_self.mpr fun p hp => decide_eq_true (h1 p hp), List.filter_eq_nil_iff.mpr fun p hp => by rw [decide_eq_true_eq]; exact h2 p hp, List.append_nil]
theorem lastLe_all {l : List (Nat × Nat)} {col : Int} (h1 : ∀ p ∈ l, (p.2 : Int) ≤ col) : lastLe l col = l.getLast? := by
  have := lastLe_cut (tail := []) h1 (fun p hp => nomatch hp)
  rwa [List.append_nil] at this
noncomputable def Kept (s₀ : Shared) (N objs : List (Addr × Obj)) : Prop := ∀ p ∈ objs, p ∈ N ∧ hasCls p.2 = true ∧ (s₀.heap.get? p.1 = none ∨ notDict p.2 = true)
theorem Kept.mono {s₀ : Shared} {N N' objs : List (Addr × Obj)} (x : Kept s₀ N objs) (h : ∀ p ∈ N, p ∈ N') : Kept s₀ N' objs := fun p hp => ⟨h p (x p hp).1, (x p hp).2⟩
noncomputable def FoundO (w : World) (s₀ : Shared) (N : List (Addr × Obj)) (x : Option (Nat × Nat)) (fv : Value) : Prop := match x with
  | none => fv = .none
  | some (f, b) => ∃ a objs, fv = .ref a ∧ Kept s₀ N objs ∧ Hit w objs a f b
noncomputable abbrev SRInv (w : World) (s₀ : Shared) (L : Addr) (t : Str) (col : Int) (pobjs : List (Addr × Obj)) (pa : Addr) (l done : List (Nat × Nat)) (f b : Nat) (rest : List (Nat × Nat)) (h : Heap) (g : Array GenState) (o : OsState) : Prop := (∃ m N tt tc ti tj ma mobjs fv, In w s₀ L m N h g o ∧ m ("prog" : Str) = some (.ref pa) ∧ m ("chars" : Str) = some (.str t tt) ∧ m ("col" : Str) = some (.int col tc) ∧ m ("m" : Str) = some (.ref ma) ∧
    m ("found" : Str) = some fv ∧ m ("i" : Str) = some (.int f ti) ∧ m ("j" : Str) = some (.int b tj) ∧ (∀ p ∈ pobjs, p ∈ N) ∧ Kept s₀ N mobjs ∧ Hit w mobjs ma f b ∧ FoundO w s₀ N done.getLast? fv) ∧ (Chain t b rest) ∧ (∀ p ∈ done, (p.2 : Int) ≤ col) ∧ (f < b) ∧ (b ≤ t.length) ∧ (l = done ++ (f, b) :: rest)
theorem In.old {w : World} {s₀ : Shared} {L : Addr} {m : LMap} {N objs : List (Addr × Obj)} {h : Heap} {g : Array GenState} {o : OsState} (I : In w s₀ L m N h g o) (x : ∀ p ∈ objs, s₀.heap.get? p.1 = some p.2 ∧ hasCls p.2 = true) : In w s₀ L m (objs ++ N) h g o :=
  ⟨I.ns, I.fresh, I.ok₀, I.ext, I.there, I.gens, I.os, I.ok, fun p hp => by
    rcases List.mem_append.mp hp with hp | hp
    · obtain ⟨e, c⟩ := x p hp
      exact ⟨I.ext _ _ (.inl c) e, (fun q : p.1 = L => by rw [q, I.fresh] at e; cases e), c⟩
    · exact I.has p hp⟩
noncomputable def fdoc (P : Params) (a : Addr) : Value := match (K P).lookup a with | some ⟨_, _, .func fd, _⟩ => fd.doc | _ => .none
noncomputable def SRPost (w : World) (s : Shared) (l : List (Nat × Nat)) (col : Int) (v : Value) (s' : Shared) : Prop :=
  Step s s' ∧ Ok w s'.heap ∧ match lastLe l col with
    | none => v = .none
    | some (f, b) => ∃ a objs, v = .ref a ∧ Made s.heap s'.heap objs ∧ Hit w objs a f b
theorem made_kept {w : World} {s₀ s s' : Shared} {L : Addr} {m : LMap} {N objs : List (Addr × Obj)} (I : In w s₀ L m N s.heap s.gens s.os) (x : Made s.heap s'.heap objs) : Kept s₀ (objs ++ N) objs := fun p hp =>
  ⟨List.mem_append_left _ hp, (made_weaken x I.there p hp).2⟩

theorem truthy_hit {w : World} {A : Around} {M : Model} {E : Value → Shared → Prop} {s s₀ : Shared} {L a : Addr} {m : LMap} {N objs : List (Addr × Obj)} {f b : Int} {Q : Bool → Shared → Prop} (H : Hit w objs a f b) (I : In w s₀ L m N s.heap s.gens s.os) (hp : ∀ p ∈ objs, p ∈ N)
    (h : Q true s) : wpAny M A (truthy (.ref a)) Q E s := by
  obtain ⟨d, sp, f0, hs, tk, fd, h1, _⟩ := H s (I.objs hp) I.ok
  exact truthy_fn h1 rfl h
section
set_option maxHeartbeats 4000000 in
theorem sr_code {A : Around} {n : Nat} (fit : Fit (n + 3) A) (w : World) (s : Shared) (t : Str) (tt tc : Tok) (col : Int) (pa : Addr) (pobjs : List (Addr × Obj)) (l : List (Nat × Nat)) (ok : Ok w s.heap) (hn : t.length ≤ 1048576)
    (hpo : ∀ p ∈ pobjs, s.heap.get? p.1 = some p.2 ∧ hasCls p.2 = true) (hP : Prog pobjs pa) (hl : Chain t 0 l) :
    codeAny (model PW w) A (.call (.ref 28) ⟨[.ref pa, .str t tt, .int col tc], []⟩) (fun r s' => ∃ v, r = .ok (.ret v) ∧ SRPost w s l col v s') s := by
  refine' enter (name := "search_reverse") (qual := "search_reverse") (params := parsOf 2) (body := _) (scope := _) (dV := .none) (kV := .none) (doc := fdoc w.params 28) (pm := .str "cpy313.idlelib.searchengine" 194) (cdv := .ref 27) (ct := .none) (an := none) (od := none)
    (binds := [("prog", .ref pa), ("chars", .str t tt), ("col", .int col tc)]) fit ok ?hl ?hcd ?hb ?hloc ?hcell ?h ?h1 ?h2 ?h3
  case hl => exact (by kernel_rfl : (K w.params).lookup 28 = some { cls := .type "function", data := .func (fnOf "search_reverse" "search_reverse" (parsOf 2) (bodyOf 2) (scopeOf 2) .none .none (fdoc w.params 28) (.str "cpy313.idlelib.searchengine" 194) none (.ref 27) .none) })
  case hcd => kernel_rfl
  case hloc => rfl
  case hcell => decide
  case h1 => rfl
  case h2 => rfl
  case h3 => rfl
  case hb => exact BindsTo.of_eq rfl
  case h =>
    intro s1 I0 k1
    have I1 := I0.old hpo
    clear I0
    have fit' : ∀ env, Fit (n + 2) (A.deeper env) := fun env => fit.deeper
    have hp1 : ∀ p ∈ pobjs, p ∈ pobjs ++ [] := fun p hp => List.mem_append_left _ hp
    generalize hB : bodyOf 2 = B
    generalize hS : scopeOf 2 = S
    conv at hB => lhs; whnf
    conv at hS => lhs; whnf
    subst hB hS
    have k185 : keepIn (K w.params) (.ref 185) = true := by kernel_rfl
    generalize hA : A.deeper _ = A'
    have fA : Fit (n + 2) A' := hA ▸ fit.deeper
    (repeat' (first | ((with_reducible show wpAny _ _ (eval (Expr.Name _ _) _) _ _ _); first | with_reducible (refine ldv (by assumption) (by ((repeat (first | assumption | exact upd_same | refine Eq.trans (upd_ne (by decide)) ?_)); all_goals rfl)) ?_) | (refine ldv (by assumption) (by ((repeat (first | assumption | exact upd_same | refine Eq.trans (upd_ne (by decide)) ?_)); all_goals rfl)) ?_)) | ((with_reducible show wpAny _ _ (getMethod (Value.ref _) _ _) _ _ _); first | with_reducible (first | (refine getm_prog (by assumption) (by assumption) (by assumption) (by assumption) ?_; intro _ _) | (refine getm_hit (by assumption) (by assumption) (by assumption) (by assumption) ?_; intro _ _ _ _ _ _ _)) | (first | (refine getm_prog (by assumption) (by assumption) (by assumption) (by assumption) ?_; intro _ _) | (refine getm_hit (by assumption) (by assumption) (by assumption) (by assumption) ?_; intro _ _ _ _ _ _ _))) | ((with_reducible show wpAny _ _ (callWith _ (Value.ref _) _ _ _) _ _ _); first | with_reducible (first | refine callWith_K (In.ok (by assumption)).k (by assumption) ?_ | (refine callSpan (by assumption) (by assumption) (by assumption) (by assumption) ?_; intro _ _ _ _ _ _ _ _)) | (first | refine callWith_K (In.ok (by assumption)).k (by assumption) ?_ | (refine callSpan (by assumption) (by assumption) (by assumption) (by assumption) ?_; intro _ _ _ _ _ _ _ _))) | ((with_reducible show wpAny _ _ (truthy (Value.ref _)) _ _ _); first | with_reducible (refine truthy_hit (by assumption) (by assumption) (by assumption) ?_) | (refine truthy_hit (by assumption) (by assumption) (by assumption) ?_)) | ((with_reducible show wpAny _ _ (assign (Expr.Tuple _ _ _) _ _) _ _ _); first | with_reducible ((refine assign_pair (by assumption) ⟨_, by assumption, rfl, _, rfl⟩ (Fit.hd (by assumption)) ?_; intro _ _)) | ((refine assign_pair (by assumption) ⟨_, by assumption, rfl, _, rfl⟩ (Fit.hd (by assumption)) ?_; intro _ _))) | ((with_reducible show wpAny _ _ (storeName _ _ _) _ _ _); first | with_reducible ((refine stv (by assumption) ?_; intro _ _ _)) | ((refine stv (by assumption) ?_; intro _ _ _))) | ((with_reducible show wpAny _ _ _ _ _ _); walk1) | ((with_reducible show ite _ _ _); walk1)))
    rename_i s2 I2
    refine ⟨I2.ok.k, wpAny_mono (search_call0 (n := n + 1) fA w _ t _ I2.ok hn _) (fun v s3 hs => ?_) (fun _ _ x => x)⟩
    rcases hs with ⟨hno, rfl, st3, ok3⟩ | ⟨f, b, hh, ma, mobjs, rfl, st3, ok3, md, ht⟩
    · have I3 := I2.call st3 ok3
      clear I2 I1
      (repeat' (first | ((with_reducible show wpAny _ _ (eval (Expr.Name _ _) _) _ _ _); first | with_reducible (refine ldv (by assumption) (by ((repeat (first | assumption | exact upd_same | refine Eq.trans (upd_ne (by decide)) ?_)); all_goals rfl)) ?_) | (refine ldv (by assumption) (by ((repeat (first | assumption | exact upd_same | refine Eq.trans (upd_ne (by decide)) ?_)); all_goals rfl)) ?_)) | ((with_reducible show wpAny _ _ (getMethod (Value.ref _) _ _) _ _ _); first | with_reducible (first | (refine getm_prog (by assumption) (by assumption) (by assumption) (by assumption) ?_; intro _ _) | (refine getm_hit (by assumption) (by assumption) (by assumption) (by assumption) ?_; intro _ _ _ _ _ _ _)) | (first | (refine getm_prog (by assumption) (by assumption) (by assumption) (by assumption) ?_; intro _ _) | (refine getm_hit (by assumption) (by assumption) (by assumption) (by assumption) ?_; intro _ _ _ _ _ _ _))) | ((with_reducible show wpAny _ _ (callWith _ (Value.ref _) _ _ _) _ _ _); first | with_reducible (first | refine callWith_K (In.ok (by assumption)).k (by assumption) ?_ | (refine callSpan (by assumption) (by assumption) (by assumption) (by assumption) ?_; intro _ _ _ _ _ _ _ _)) | (first | refine callWith_K (In.ok (by assumption)).k (by assumption) ?_ | (refine callSpan (by assumption) (by assumption) (by assumption) (by assumption) ?_; intro _ _ _ _ _ _ _ _))) | ((with_reducible show wpAny _ _ (truthy (Value.ref _)) _ _ _); first | with_reducible (refine truthy_hit (by assumption) (by assumption) (by assumption) ?_) | (refine truthy_hit (by assumption) (by assumption) (by assumption) ?_)) | ((with_reducible show wpAny _ _ (assign (Expr.Tuple _ _ _) _ _) _ _ _); first | with_reducible ((refine assign_pair (by assumption) ⟨_, by assumption, rfl, _, rfl⟩ (Fit.hd (by assumption)) ?_; intro _ _)) | ((refine assign_pair (by assumption) ⟨_, by assumption, rfl, _, rfl⟩ (Fit.hd (by assumption)) ?_; intro _ _))) | ((with_reducible show wpAny _ _ (storeName _ _ _) _ _ _); first | with_reducible ((refine stv (by assumption) ?_; intro _ _ _)) | ((refine stv (by assumption) ?_; intro _ _ _))) | ((with_reducible show wpAny _ _ _ _ _ _); walk1) | ((with_reducible show ite _ _ _); walk1)))
      rename_i s4 I4 _
      have e : l = [] := by
        cases hl with
        | nil => rfl
        | cons h => exact (hit_no h hno).elim
      subst e
      exact ⟨_, rfl, ⟨I4.ext, I4.there, I4.gens, I4.os⟩, I4.ok, rfl⟩
    · have I3 := I2.more (I2.call st3 ok3) md
      have hm3 : ∀ p ∈ mobjs, p ∈ mobjs ++ (pobjs ++ []) := fun p hp => List.mem_append_left _ hp
      have hp3 : ∀ p ∈ pobjs, p ∈ mobjs ++ (pobjs ++ []) := fun p hp => List.mem_append_right _ (hp1 p hp)
      have kp := made_kept I2 md
      clear I2 I1 md
      (repeat' (first | ((with_reducible show wpAny _ _ (eval (Expr.Name _ _) _) _ _ _); first | with_reducible (refine ldv (by assumption) (by ((repeat (first | assumption | exact upd_same | refine Eq.trans (upd_ne (by decide)) ?_)); all_goals rfl)) ?_) | (refine ldv (by assumption) (by ((repeat (first | assumption | exact upd_same | refine Eq.trans (upd_ne (by decide)) ?_)); all_goals rfl)) ?_)) | ((with_reducible show wpAny _ _ (getMethod (Value.ref _) _ _) _ _ _); first | with_reducible (first | (refine getm_prog (by assumption) (by assumption) (by assumption) (by assumption) ?_; intro _ _) | (refine getm_hit (by assumption) (by assumption) (by assumption) (by assumption) ?_; intro _ _ _ _ _ _ _)) | (first | (refine getm_prog (by assumption) (by assumption) (by assumption) (by assumption) ?_; intro _ _) | (refine getm_hit (by assumption) (by assumption) (by assumption) (by assumption) ?_; intro _ _ _ _ _ _ _))) | ((with_reducible show wpAny _ _ (callWith _ (Value.ref _) _ _ _) _ _ _); first | with_reducible (first | refine callWith_K (In.ok (by assumption)).k (by assumption) ?_ | (refine callSpan (by assumption) (by assumption) (by assumption) (by assumption) ?_; intro _ _ _ _ _ _ _ _)) | (first | refine callWith_K (In.ok (by assumption)).k (by assumption) ?_ | (refine callSpan (by assumption) (by assumption) (by assumption) (by assumption) ?_; intro _ _ _ _ _ _ _ _))) | ((with_reducible show wpAny _ _ (truthy (Value.ref _)) _ _ _); first | with_reducible (refine truthy_hit (by assumption) (by assumption) (by assumption) ?_) | (refine truthy_hit (by assumption) (by assumption) (by assumption) ?_)) | ((with_reducible show wpAny _ _ (assign (Expr.Tuple _ _ _) _ _) _ _ _); first | with_reducible ((refine assign_pair (by assumption) ⟨_, by assumption, rfl, _, rfl⟩ (Fit.hd (by assumption)) ?_; intro _ _)) | ((refine assign_pair (by assumption) ⟨_, by assumption, rfl, _, rfl⟩ (Fit.hd (by assumption)) ?_; intro _ _))) | ((with_reducible show wpAny _ _ (storeName _ _ _) _ _ _); first | with_reducible ((refine stv (by assumption) ?_; intro _ _ _)) | ((refine stv (by assumption) ?_; intro _ _ _))) | ((with_reducible show wpAny _ _ _ _ _ _); walk1) | ((with_reducible show ite _ _ _); walk1)))
      rename_i s5 I5
      have hb := hit_lt hh
      have hc : ∃ rest, l = (f, b) :: rest ∧ Chain t b rest := by
        cases hl with
        | nil h => exact (hit_no hh h).elim
        | cons h r => obtain ⟨rfl, rfl⟩ := hit_unique hh h; exact ⟨_, rfl, r⟩
      obtain ⟨rest, hl1, hc⟩ := hc
      refine wpAny_While (codeAny_mono (R := fun r s' => r = .ok .next ∧ ∃ m N fv, In w s s.heap.objs.size m N s'.heap s'.gens s'.os ∧ m ("found" : Str) = some fv ∧ FoundO w s N (lastLe l col) fv)
        (codeAny_whileLoop (I := fun k s' => ∃ done f b rest, k = rest.length ∧ SRInv w s s.heap.objs.size t col pobjs pa l done f b rest s'.heap s'.gens s'.os) ?turn rest.length ?init) ?cont)
      case init =>
        exact ⟨[], f, b, rest, rfl, ⟨⟨_, _, tt, tc, _, _, ma, mobjs, .none, I5, rfl, rfl, rfl, rfl, rfl, rfl, rfl, hp3, kp, ht, rfl⟩, hc, (fun _ hp => nomatch hp), by omega, by omega, hl1⟩⟩
      case cont =>
        clear I5 I3
        rintro r s6 ⟨rfl, m, N, fv, I6, hf, hF⟩
        dsimp only
        (repeat' (first | ((with_reducible show wpAny _ _ (eval (Expr.Name _ _) _) _ _ _); first | with_reducible (refine ldv (by assumption) (by ((repeat (first | assumption | exact upd_same | refine Eq.trans (upd_ne (by decide)) ?_)); all_goals rfl)) ?_) | (refine ldv (by assumption) (by ((repeat (first | assumption | exact upd_same | refine Eq.trans (upd_ne (by decide)) ?_)); all_goals rfl)) ?_)) | ((with_reducible show wpAny _ _ (getMethod (Value.ref _) _ _) _ _ _); first | with_reducible (first | (refine getm_prog (by assumption) (by assumption) (by assumption) (by assumption) ?_; intro _ _) | (refine getm_hit (by assumption) (by assumption) (by assumption) (by assumption) ?_; intro _ _ _ _ _ _ _)) | (first | (refine getm_prog (by assumption) (by assumption) (by assumption) (by assumption) ?_; intro _ _) | (refine getm_hit (by assumption) (by assumption) (by assumption) (by assumption) ?_; intro _ _ _ _ _ _ _))) | ((with_reducible show wpAny _ _ (callWith _ (Value.ref _) _ _ _) _ _ _); first | with_reducible (first | refine callWith_K (In.ok (by assumption)).k (by assumption) ?_ | (refine callSpan (by assumption) (by assumption) (by assumption) (by assumption) ?_; intro _ _ _ _ _ _ _ _)) | (first | refine callWith_K (In.ok (by assumption)).k (by assumption) ?_ | (refine callSpan (by assumption) (by assumption) (by assumption) (by assumption) ?_; intro _ _ _ _ _ _ _ _))) | ((with_reducible show wpAny _ _ (truthy (Value.ref _)) _ _ _); first | with_reducible (refine truthy_hit (by assumption) (by assumption) (by assumption) ?_) | (refine truthy_hit (by assumption) (by assumption) (by assumption) ?_)) | ((with_reducible show wpAny _ _ (assign (Expr.Tuple _ _ _) _ _) _ _ _); first | with_reducible ((refine assign_pair (by assumption) ⟨_, by assumption, rfl, _, rfl⟩ (Fit.hd (by assumption)) ?_; intro _ _)) | ((refine assign_pair (by assumption) ⟨_, by assumption, rfl, _, rfl⟩ (Fit.hd (by assumption)) ?_; intro _ _))) | ((with_reducible show wpAny _ _ (storeName _ _ _) _ _ _); first | with_reducible ((refine stv (by assumption) ?_; intro _ _ _)) | ((refine stv (by assumption) ?_; intro _ _ _))) | ((with_reducible show wpAny _ _ _ _ _ _); walk1) | ((with_reducible show ite _ _ _); walk1)))
        refine ⟨_, rfl, ⟨I6.ext, I6.there, I6.gens, I6.os⟩, I6.ok, ?_⟩
        revert hF
        cases lastLe l col with
        | none => exact id
        | some q =>
          rintro ⟨a, objs, e, k, H⟩
          exact ⟨a, objs, e, fun p hp => ⟨(I6.has p (k p hp).1).1, (k p hp).2⟩, H⟩
      case turn =>
        clear I5 I3 kp hm3 hp3 ht hc hb hh hl1
        rintro k s6 ⟨done, f, b, rest, rfl, ⟨m, N, tt', tc', ti, tj, ma, mobjs, fv, I, g1, g2, g3, g4, g5, g6, g7, hpN, kp, H, hF⟩, hc, hle, hlt, hlen, hall⟩
        have hmN : ∀ p ∈ mobjs, p ∈ N := fun p hp => (kp p hp).1
        have hout : ¬ (b : Int) ≤ col → FoundO w s N (lastLe l col) fv := fun hn => by
          rw [hall, lastLe_cut hle fun p hp => ?_]
          · exact hF
          · rcases List.mem_cons.mp hp with rfl | hp
            · exact hn
            · have := hc.above p hp; omega
        (repeat' (first | ((with_reducible show wpAny _ _ (eval (Expr.Name _ _) _) _ _ _); first | with_reducible (refine ldv (by assumption) (by ((repeat (first | assumption | exact upd_same | refine Eq.trans (upd_ne (by decide)) ?_)); all_goals rfl)) ?_) | (refine ldv (by assumption) (by ((repeat (first | assumption | exact upd_same | refine Eq.trans (upd_ne (by decide)) ?_)); all_goals rfl)) ?_)) | ((with_reducible show wpAny _ _ (getMethod (Value.ref _) _ _) _ _ _); first | with_reducible (first | (refine getm_prog (by assumption) (by assumption) (by assumption) (by assumption) ?_; intro _ _) | (refine getm_hit (by assumption) (by assumption) (by assumption) (by assumption) ?_; intro _ _ _ _ _ _ _)) | (first | (refine getm_prog (by assumption) (by assumption) (by assumption) (by assumption) ?_; intro _ _) | (refine getm_hit (by assumption) (by assumption) (by assumption) (by assumption) ?_; intro _ _ _ _ _ _ _))) | ((with_reducible show wpAny _ _ (callWith _ (Value.ref _) _ _ _) _ _ _); first | with_reducible (first | refine callWith_K (In.ok (by assumption)).k (by assumption) ?_ | (refine callSpan (by assumption) (by assumption) (by assumption) (by assumption) ?_; intro _ _ _ _ _ _ _ _)) | (first | refine callWith_K (In.ok (by assumption)).k (by assumption) ?_ | (refine callSpan (by assumption) (by assumption) (by assumption) (by assumption) ?_; intro _ _ _ _ _ _ _ _))) | ((with_reducible show wpAny _ _ (truthy (Value.ref _)) _ _ _); first | with_reducible (refine truthy_hit (by assumption) (by assumption) (by assumption) ?_) | (refine truthy_hit (by assumption) (by assumption) (by assumption) ?_)) | ((with_reducible show wpAny _ _ (assign (Expr.Tuple _ _ _) _ _) _ _ _); first | with_reducible ((refine assign_pair (by assumption) ⟨_, by assumption, rfl, _, rfl⟩ (Fit.hd (by assumption)) ?_; intro _ _)) | ((refine assign_pair (by assumption) ⟨_, by assumption, rfl, _, rfl⟩ (Fit.hd (by assumption)) ?_; intro _ _))) | ((with_reducible show wpAny _ _ (storeName _ _ _) _ _ _); first | with_reducible ((refine stv (by assumption) ?_; intro _ _ _)) | ((refine stv (by assumption) ?_; intro _ _ _))) | ((with_reducible show wpAny _ _ _ _ _ _); walk1) | ((with_reducible show ite _ _ _); walk1)))
        · exfalso; omega
        · rename_i q1 q2 _ _ _ q3 s7 I7
          refine ⟨I7.ok.k, wpAny_mono (search_call (n := n + 1) fA w _ t b _ _ I7.ok (by omega) hn _) (fun v s8 hs => ?_) (fun _ _ x => x)⟩
          rcases hs with ⟨hno, rfl, st8, ok8⟩ | ⟨f', b', hh, ma', mobjs', rfl, st8, ok8, md, ht⟩
          · have I8 := I7.call st8 ok8
            clear I7
            (repeat' (first | ((with_reducible show wpAny _ _ (eval (Expr.Name _ _) _) _ _ _); first | with_reducible (refine ldv (by assumption) (by ((repeat (first | assumption | exact upd_same | refine Eq.trans (upd_ne (by decide)) ?_)); all_goals rfl)) ?_) | (refine ldv (by assumption) (by ((repeat (first | assumption | exact upd_same | refine Eq.trans (upd_ne (by decide)) ?_)); all_goals rfl)) ?_)) | ((with_reducible show wpAny _ _ (getMethod (Value.ref _) _ _) _ _ _); first | with_reducible (first | (refine getm_prog (by assumption) (by assumption) (by assumption) (by assumption) ?_; intro _ _) | (refine getm_hit (by assumption) (by assumption) (by assumption) (by assumption) ?_; intro _ _ _ _ _ _ _)) | (first | (refine getm_prog (by assumption) (by assumption) (by assumption) (by assumption) ?_; intro _ _) | (refine getm_hit (by assumption) (by assumption) (by assumption) (by assumption) ?_; intro _ _ _ _ _ _ _))) | ((with_reducible show wpAny _ _ (callWith _ (Value.ref _) _ _ _) _ _ _); first | with_reducible (first | refine callWith_K (In.ok (by assumption)).k (by assumption) ?_ | (refine callSpan (by assumption) (by assumption) (by assumption) (by assumption) ?_; intro _ _ _ _ _ _ _ _)) | (first | refine callWith_K (In.ok (by assumption)).k (by assumption) ?_ | (refine callSpan (by assumption) (by assumption) (by assumption) (by assumption) ?_; intro _ _ _ _ _ _ _ _))) | ((with_reducible show wpAny _ _ (truthy (Value.ref _)) _ _ _); first | with_reducible (refine truthy_hit (by assumption) (by assumption) (by assumption) ?_) | (refine truthy_hit (by assumption) (by assumption) (by assumption) ?_)) | ((with_reducible show wpAny _ _ (assign (Expr.Tuple _ _ _) _ _) _ _ _); first | with_reducible ((refine assign_pair (by assumption) ⟨_, by assumption, rfl, _, rfl⟩ (Fit.hd (by assumption)) ?_; intro _ _)) | ((refine assign_pair (by assumption) ⟨_, by assumption, rfl, _, rfl⟩ (Fit.hd (by assumption)) ?_; intro _ _))) | ((with_reducible show wpAny _ _ (storeName _ _ _) _ _ _); first | with_reducible ((refine stv (by assumption) ?_; intro _ _ _)) | ((refine stv (by assumption) ?_; intro _ _ _))) | ((with_reducible show wpAny _ _ _ _ _ _); walk1) | ((with_reducible show ite _ _ _); walk1)))
            rename_i s9 I9 _
            have e : rest = [] := by
              cases hc with
              | nil => rfl
              | cons h => exact (hit_no h hno).elim
            subst e
            refine ⟨trivial, _, N, .ref ma, I9, by ((repeat (first | assumption | exact upd_same | refine Eq.trans (upd_ne (by decide)) ?_)); all_goals rfl), ?_⟩
            rw [hall, lastLe_all, List.getLast?_append]
            · exact ⟨ma, mobjs, rfl, kp, H⟩
            · intro p hp
              rcases List.mem_append.mp hp with hp | hp
              · exact hle p hp
              · rcases List.mem_cons.mp hp with rfl | hp
                · exact q2
                · cases hp
          · have I8 := I7.more (I7.call st8 ok8) md
            have hm8 : ∀ p ∈ mobjs', p ∈ mobjs' ++ N := fun p hp => List.mem_append_left _ hp
            have hp8 : ∀ p ∈ pobjs, p ∈ mobjs' ++ N := fun p hp => List.mem_append_right _ (hpN p hp)
            have kp8 := made_kept I7 md
            have hb := hit_lt hh
            have hc' : ∃ rest', rest = (f', b') :: rest' ∧ Chain t b' rest' := by
              cases hc with
              | nil h => exact (hit_no hh h).elim
              | cons h r => obtain ⟨rfl, rfl⟩ := hit_unique hh h; exact ⟨_, rfl, r⟩
            obtain ⟨rest', rfl, hc'⟩ := hc'
            clear I7 I md hmN hF hout
            (repeat' (first | ((with_reducible show wpAny _ _ (eval (Expr.Name _ _) _) _ _ _); first | with_reducible (refine ldv (by assumption) (by ((repeat (first | assumption | exact upd_same | refine Eq.trans (upd_ne (by decide)) ?_)); all_goals rfl)) ?_) | (refine ldv (by assumption) (by ((repeat (first | assumption | exact upd_same | refine Eq.trans (upd_ne (by decide)) ?_)); all_goals rfl)) ?_)) | ((with_reducible show wpAny _ _ (getMethod (Value.ref _) _ _) _ _ _); first | with_reducible (first | (refine getm_prog (by assumption) (by assumption) (by assumption) (by assumption) ?_; intro _ _) | (refine getm_hit (by assumption) (by assumption) (by assumption) (by assumption) ?_; intro _ _ _ _ _ _ _)) | (first | (refine getm_prog (by assumption) (by assumption) (by assumption) (by assumption) ?_; intro _ _) | (refine getm_hit (by assumption) (by assumption) (by assumption) (by assumption) ?_; intro _ _ _ _ _ _ _))) | ((with_reducible show wpAny _ _ (callWith _ (Value.ref _) _ _ _) _ _ _); first | with_reducible (first | refine callWith_K (In.ok (by assumption)).k (by assumption) ?_ | (refine callSpan (by assumption) (by assumption) (by assumption) (by assumption) ?_; intro _ _ _ _ _ _ _ _)) | (first | refine callWith_K (In.ok (by assumption)).k (by assumption) ?_ | (refine callSpan (by assumption) (by assumption) (by assumption) (by assumption) ?_; intro _ _ _ _ _ _ _ _))) | ((with_reducible show wpAny _ _ (truthy (Value.ref _)) _ _ _); first | with_reducible (refine truthy_hit (by assumption) (by assumption) (by assumption) ?_) | (refine truthy_hit (by assumption) (by assumption) (by assumption) ?_)) | ((with_reducible show wpAny _ _ (assign (Expr.Tuple _ _ _) _ _) _ _ _); first | with_reducible ((refine assign_pair (by assumption) ⟨_, by assumption, rfl, _, rfl⟩ (Fit.hd (by assumption)) ?_; intro _ _)) | ((refine assign_pair (by assumption) ⟨_, by assumption, rfl, _, rfl⟩ (Fit.hd (by assumption)) ?_; intro _ _))) | ((with_reducible show wpAny _ _ (storeName _ _ _) _ _ _); first | with_reducible ((refine stv (by assumption) ?_; intro _ _ _)) | ((refine stv (by assumption) ?_; intro _ _ _))) | ((with_reducible show wpAny _ _ _ _ _ _); walk1) | ((with_reducible show ite _ _ _); walk1)))
            rename_i s9 I9
            have hF9 : FoundO w s (mobjs' ++ N) (done ++ [(f, b)]).getLast? (.ref ma) := by
              rw [List.getLast?_concat]
              exact ⟨ma, mobjs, rfl, kp.mono fun p hp => List.mem_append_right _ hp, H⟩
            refine ⟨rest'.length, Nat.lt_succ_self _, done ++ [(f, b)], f', b', rest', rfl, ⟨⟨_, _, tt', tc', _, _, ma', mobjs', .ref ma, I9, by ((repeat (first | assumption | exact upd_same | refine Eq.trans (upd_ne (by decide)) ?_)); all_goals rfl), by ((repeat (first | assumption | exact upd_same | refine Eq.trans (upd_ne (by decide)) ?_)); all_goals rfl), by ((repeat (first | assumption | exact upd_same | refine Eq.trans (upd_ne (by decide)) ?_)); all_goals rfl), by ((repeat (first | assumption | exact upd_same | refine Eq.trans (upd_ne (by decide)) ?_)); all_goals rfl), by ((repeat (first | assumption | exact upd_same | refine Eq.trans (upd_ne (by decide)) ?_)); all_goals rfl), by ((repeat (first | assumption | exact upd_same | refine Eq.trans (upd_ne (by decide)) ?_)); all_goals rfl), by ((repeat (first | assumption | exact upd_same | refine Eq.trans (upd_ne (by decide)) ?_)); all_goals rfl), hp8, kp8, ht, hF9⟩, hc', fun p hp => ?_, by omega, by omega, by rw [hall, List.append_assoc]; rfl⟩⟩
            rcases List.mem_append.mp hp with hp | hp
            · exact hle p hp
            · rcases List.mem_cons.mp hp with rfl | hp
              · exact q2
              · cases hp
        · rename_i q1 q2
          exact ⟨rfl, m, N, fv, I, g5, hout q2⟩
        · rename_i q1
          exact ⟨rfl, m, N, fv, I, g5, hout (by omega)⟩
theorem sr_call {A : Around} {n : Nat} (fit : Fit (n + 3) A) (w : World) (s : Shared) (t : Str) (tt tc : Tok) (col : Int) (pa : Addr) (pobjs : List (Addr × Obj)) (l : List (Nat × Nat)) (ok : Ok w s.heap) (hn : t.length ≤ 1048576)
    (hpo : ∀ p ∈ pobjs, s.heap.get? p.1 = some p.2 ∧ hasCls p.2 = true) (hP : Prog pobjs pa) (hl : Chain t 0 l) (E : Value → Shared → Prop) :
    wpAny (model PW w) A (call (.ref 28) [.ref pa, .str t tt, .int col tc]) (SRPost w s l col) E s :=
  wpAny_call (codeAny_mono (sr_code fit w s t tt tc col pa pobjs l ok hn hpo hP hl) fun r s' h => by obtain ⟨v, rfl, h⟩ := h; exact h)
end
end Mine

end
section
open PySem PySem.W PySem.W.X PyProof.Rows PySem.Calls
set_option maxRecDepth 100000
namespace Mine
section
variable {w : World} {s₀ : Shared} {L a : Addr} {m : LMap} {N : List (Addr × Obj)} {h h' : Heap} {g : Array GenState} {os : OsState} {o o' : Obj}
-- a new object
theorem In.push (I : In w s₀ L m N h g os) (hf : o.isFreed = false) (hc : hasCls o = true) : In w s₀ L m ((h.objs.size, o) :: N) (h.push o) g os := by
  have k : ∀ b o', h.get? b = some o' → (h.push o).get? b = some o' := fun b o' e => Heap.get?_push_of_some _ e
  refine ⟨I.ns.push o, I.fresh, I.ok₀, I.ext.trans (.of_keep k), fun b x e => let ⟨x', e'⟩ := I.there b x e; ⟨x', k _ _ e'⟩, I.gens, I.os, I.ok.keeps k, fun p hp => ?_⟩
  rcases List.mem_cons.mp hp with rfl | hp
  · exact ⟨Heap.get?_push_size _ hf, Nat.ne_of_gt I.ns.lt, hc⟩
  · exact ⟨k _ _ (I.has p hp).1, (I.has p hp).2⟩
theorem In.fresh_size (I : In w s₀ L m N h g os) : s₀.heap.get? h.objs.size = none := by
  cases q : s₀.heap.get? h.objs.size with
  | none => rfl
  | some x => obtain ⟨x', e⟩ := I.there _ _ q; exact absurd (Heap.lt_size e) (Nat.lt_irrefl _)
theorem In.apart (I : In w s₀ L m ((a, o) :: N) h g os) (nc : o.cls ≠ .type "code") : (a ≠ 172 ∧ a ≠ 187) ∧ ∀ c, CodeAt h c → c ≠ a := by
  obtain ⟨e, _, hc⟩ := I.has _ (.head _)
  dsimp only at e hc
  refine ⟨⟨fun q => ?_, fun q => ?_⟩, ?_⟩
  · subst q
    rcases I.ok.t with t | ⟨_, _, t, _⟩ <;> (rw [e] at t; cases t; cases hc)
  · subst q
    obtain ⟨vs, t⟩ := I.ok.u
    rw [e] at t; cases t; cases hc
  · rintro c ⟨_, _, _, t⟩ q
    subst q
    rw [e] at t; cases t; exact nc rfl
-- an own object's change
theorem In.turn (I : In w s₀ L m ((a, o) :: N) h g os) (fa : s₀.heap.get? a = none) (hs : Heap.SameBut a h h') (e : h'.get? a = some o') (hc : hasCls o' = true) (nc : o.cls ≠ .type "code") (dis : ∀ p ∈ N, p.2.cls ≠ o.cls) :
    In w s₀ L m ((a, o') :: N) h' g os := by
  obtain ⟨⟨n1, n2⟩, n3⟩ := I.apart nc
  obtain ⟨ea, aL, _⟩ := I.has _ (.head _)
  dsimp only at ea aL
  have ne : ∀ b x, s₀.heap.get? b = some x → b ≠ a := fun b x e q => by rw [q, fa] at e; cases e
  refine ⟨I.ns.sameBut hs aL.symm, I.fresh, I.ok₀, fun b x c e => (hs.2 b (ne b x e)).trans (I.ext b x c e), fun b x e => let ⟨x', e'⟩ := I.there b x e; ⟨x', (hs.2 b (ne b x e)).trans e'⟩, I.gens, I.os,
    ⟨fun b x l => (hs.2 b (ne b x (I.ok₀.k b x l))).trans (I.ok.k b x l), ?_, let ⟨vs, t⟩ := I.ok.u; ⟨vs, (hs.2 _ n2.symm).trans t⟩, I.ok.b.at fun _ e => let ⟨o0, _, _, q, _⟩ := I.ok₀.b; (hs.2 _ (ne 0 o0 q)).trans e⟩, fun p hp => ?_⟩
  · rcases I.ok.t with t | ⟨c1, c2, t, y1, y2⟩
    · exact .inl ((hs.2 _ n1.symm).trans t)
    · have m1 := n3 _ y1
      have m2 := n3 _ y2
      obtain ⟨a1, a2, a3, y1⟩ := y1
      obtain ⟨b1, b2, b3, y2⟩ := y2
      exact .inr ⟨c1, c2, (hs.2 _ n1.symm).trans t, ⟨a1, a2, a3, (hs.2 _ m1).trans y1⟩, ⟨b1, b2, b3, (hs.2 _ m2).trans y2⟩⟩
  · rcases List.mem_cons.mp hp with rfl | hp
    · exact ⟨e, aL, hc⟩
    · obtain ⟨ep, pL, pc⟩ := I.has p (.tail _ hp)
      refine ⟨(hs.2 _ fun q => ?_).trans ep, pL, pc⟩
      rw [q, ea] at ep
      exact dis p hp (by rw [← Option.some.inj ep])
-- an own object that is let go
theorem In.lose (I : In w s₀ L m ((a, o) :: N) h g os) (fa : s₀.heap.get? a = none) (hs : Heap.ExtBut a h h') (nc : o.cls ≠ .type "code") (dis : ∀ p ∈ N, p.2.cls ≠ o.cls) :
    In w s₀ L m N h' g os := by
  obtain ⟨⟨n1, n2⟩, n3⟩ := I.apart nc
  obtain ⟨ea, aL, _⟩ := I.has _ (.head _)
  dsimp only at ea aL
  have ne : ∀ b x, s₀.heap.get? b = some x → b ≠ a := fun b x e q => by rw [q, fa] at e; cases e
  refine ⟨I.ns.extBut hs aL.symm, I.fresh, I.ok₀, fun b x c e => hs b x (ne b x e) (I.ext b x c e), fun b x e => let ⟨x', e'⟩ := I.there b x e; ⟨x', hs b x' (ne b x e) e'⟩, I.gens, I.os,
    ⟨fun b x l => hs b x (ne b x (I.ok₀.k b x l)) (I.ok.k b x l), ?_, let ⟨vs, t⟩ := I.ok.u; ⟨vs, hs _ _ n2.symm t⟩, I.ok.b.at fun _ e => let ⟨o0, _, _, q, _⟩ := I.ok₀.b; hs _ _ (ne 0 o0 q) e⟩, fun p hp => ?_⟩
  · rcases I.ok.t with t | ⟨c1, c2, t, y1, y2⟩
    · exact .inl (hs _ _ n1.symm t)
    · have m1 := n3 _ y1
      have m2 := n3 _ y2
      obtain ⟨a1, a2, a3, y1⟩ := y1
      obtain ⟨b1, b2, b3, y2⟩ := y2
      exact .inr ⟨c1, c2, hs _ _ n1.symm t, ⟨a1, a2, a3, hs _ _ m1 y1⟩, ⟨b1, b2, b3, hs _ _ m2 y2⟩⟩
  · obtain ⟨ep, pL, pc⟩ := I.has p (.tail _ hp)
    refine ⟨hs _ _ (fun q => ?_) ep, pL, pc⟩
    rw [q, ea] at ep
    exact dis p hp (by rw [← Option.some.inj ep])
end
section
variable {w : World} {A : Around} {M : Model} {E : Value → Shared → Prop} {s s₀ : Shared} {L a : Addr} {m : LMap} {N : List (Addr × Obj)}
theorem newList_In {vs : List Value} {Q : Value → Shared → Prop} (I : In w s₀ L m N s.heap s.gens s.os) (h : ∀ s', In w s₀ L m ((s.heap.objs.size, listOf vs.toArray 0) :: N) s'.heap s'.gens s'.os → s₀.heap.get? s.heap.objs.size = none → (∀ b o, s.heap.get? b = some o → s'.heap.get? b = some o) → Q (.ref s.heap.objs.size) s')
    (hsz : vs.length ≤ sizeLine := by size_fits) : wpAny M A (newList vs) Q E s := by
  refine wpAny_newObj_type (h { s with heap := s.heap.push (listOf vs.toArray 0) } (I.push rfl rfl) I.fresh_size fun b o e => Heap.get?_push_of_some _ e) (by show vs.toArray.size ≤ sizeLine; rw [List.size_toArray]; exact hsz)
theorem append_In {its : Array Value} {n : Nat} {x : Value} {Q : Value → Shared → Prop} (I : In w s₀ L m ((a, listOf its n) :: N) s.heap s.gens s.os) (fa : s₀.heap.get? a = none) (dis : ∀ p ∈ N, p.2.cls ≠ .type "list")
    (h : ∀ s', In w s₀ L m ((a, listOf (its.push x) (n + 1)) :: N) s'.heap s'.gens s'.os → Q .none s') (hsz : its.size ≤ sizeLine) : wpAny (model PW w) A (call (.builtin "list.append") [.ref a, x]) Q E s :=
  append_at (hsz := hsz) (I.has _ (.head _)).1 fun h' hs ho' => h { s with heap := h' } (I.turn fa hs ho' rfl (show Value.type "list" ≠ .type "code" by decide) dis)
theorem getm_append {its : Array Value} {n : Nat} {pl : Sem Bool} {Q : Value × List Value → Shared → Prop} (I : In w s₀ L m N s.heap s.gens s.os) (e : (a, listOf its n) ∈ N) (h : Q (.builtin "list.append", [.ref a]) s) :
    wpAny M A (getMethod (.ref a) "append" pl) Q E s := getMethod_list_append (I.has _ e).1 rfl rfl h
end
-- a range's iterator
noncomputable abbrev rgIt (x left : Int) : Obj := { cls := .type "range_iterator", data := .fields #[rawInt x, rawInt left, rawInt 1] }
section
variable {w : World} {A : Around} {E : Value → Shared → Prop} {s s₀ : Shared} {L : Addr} {m : LMap} {N : List (Addr × Obj)}
theorem range_In {a b : Int} {t u : Tok} {Q : Value → Shared → Prop} (I : In w s₀ L m N s.heap s.gens s.os) (ha : -(2 ^ 62) ≤ a) (hab : a ≤ b) (hb : b < 2 ^ 62)
    (h : ∀ s' it, In w s₀ L m ((it, rgIt a (b - a)) :: N) s'.heap s'.gens s'.os → s₀.heap.get? it = none → Q (.ref it) s') :
    wpAny (model PW w) A (call (.type "range") [.int a t, .int b u]) (fun x s₁ => wpAny (model PW w) A (pyIter x) Q E s₁) E s := by
  refine call_range_2 ?_
  have I1 := I.push (o := { cls := .type "range", data := .fields #[.int a t, .int b u, .int 1 s.toks] }) rfl rfl
  have hr : Builtin.Range.rangeSize a b 1 = b - a := by rw [rangeSize_one]; split <;> omega
  refine wpAny_pyIter_range (IsRange.new s.heap a b 1 t u s.toks) (small_one ha (by omega) (by omega) hb) ?_
  rw [hr]
  have I2 := I1.push (o := rgIt a (b - a)) rfl rfl
  exact h { s with heap := _, toks := s.toks + 1 } _ (I2.mono fun p hp => by
    rcases List.mem_cons.mp hp with rfl | hp
    · exact .head _
    · exact .tail _ (.tail _ hp)) I1.fresh_size
-- a range's iterator, asked for one more
theorem next_In {x left : Int} {it : Addr} {Q : Option Value → Shared → Prop} (I : In w s₀ L m ((it, rgIt x left) :: N) s.heap s.gens s.os) (fi : s₀.heap.get? it = none) (dis : ∀ p ∈ N, p.2.cls ≠ .type "range_iterator") (hl : 0 < left)
    (h : ∀ s' tk, In w s₀ L m ((it, rgIt (x + 1) (left - 1)) :: N) s'.heap s'.gens s'.os → Q (some (.int x tk)) s') : wpAny (model PW w) A (pyNext (.ref it)) Q E s :=
  wpAny_pyNext_range_item (I.has _ (.head _)).1 hl fun h' e hs => h { s with heap := h', toks := s.toks + 1 } _ (I.turn fi hs e rfl (show Value.type "range_iterator" ≠ .type "code" by decide) dis)
theorem nextEnd_In {x left : Int} {it : Addr} {Q : Option Value → Shared → Prop} (I : In w s₀ L m ((it, rgIt x left) :: N) s.heap s.gens s.os) (fi : s₀.heap.get? it = none) (dis : ∀ p ∈ N, p.2.cls ≠ .type "range_iterator") (hh : A.handled = none) (hl : left ≤ 0)
    (h : ∀ s', In w s₀ L m N s'.heap s'.gens s'.os → Q none s') : wpAny (model PW w) A (pyNext (.ref it)) Q E s :=
  wpAny_pyNext_range_end hh (I.has _ (.head _)).1 hl fun h' e => h { s with heap := h' } (I.lose fi e (show Value.type "range_iterator" ≠ .type "code" by decide) dis)
end
-- a list's iterator
noncomputable def LsIt (l : Addr) (i : Nat) (o : Obj) : Prop := o.cls = .type "list_iterator" ∧ o.data = .fields #[.ref l, .int i 0]
theorem LsIt.cls {l : Addr} {i : Nat} {o : Obj} (x : LsIt l i o) : hasCls o = true := by unfold hasCls; rw [x.1]
section
variable {w : World} {A : Around} {E : Value → Shared → Prop} {s s₀ : Shared} {L l : Addr} {m : LMap} {N : List (Addr × Obj)} {its : Array Value} {n : Nat}
theorem iter_In {Q : Value → Shared → Prop} (I : In w s₀ L m N s.heap s.gens s.os) (e : (l, listOf its n) ∈ N)
    (h : ∀ s' it o, LsIt l 0 o → In w s₀ L m ((it, o) :: N) s'.heap s'.gens s'.os → s₀.heap.get? it = none → Q (.ref it) s') : wpAny (model PW w) A (pyIter (.ref l)) Q E s :=
  wpAny_pyIter_list (items := its) ⟨_, (I.has _ e).1, rfl, n, rfl⟩ (h { s with heap := _ } _ _ ⟨rfl, rfl⟩ (I.push rfl rfl) I.fresh_size)
theorem lsnext_In {i : Nat} {it : Addr} {o : Obj} {x : Value} {Q : Option Value → Shared → Prop} (I : In w s₀ L m ((it, o) :: N) s.heap s.gens s.os) (ho : LsIt l i o) (fi : s₀.heap.get? it = none) (dis : ∀ p ∈ N, p.2.cls ≠ .type "list_iterator")
    (e : (l, listOf its n) ∈ N) (hx : its[i]? = some x) (h : ∀ s' o', LsIt l (i + 1) o' → In w s₀ L m ((it, o') :: N) s'.heap s'.gens s'.os → Q (some x) s') : wpAny (model PW w) A (pyNext (.ref it)) Q E s :=
  wpAny_pyNext_list_item (items := its) ⟨_, (I.has _ (.head _)).1, ho.1, ho.2⟩ ⟨_, (I.has _ (.tail _ e)).1, rfl, n, rfl⟩ hx fun h' hit hs => by
    obtain ⟨o', e', c', d'⟩ := hit
    have y : LsIt l (i + 1) o' := ⟨c', d'⟩
    exact h { s with heap := h' } o' y (I.turn fi hs e' y.cls (by rw [ho.1]; decide) (fun p hp => by rw [ho.1]; exact dis p hp))
theorem lsend_In {i : Nat} {it : Addr} {o : Obj} {Q : Option Value → Shared → Prop} (I : In w s₀ L m ((it, o) :: N) s.heap s.gens s.os) (ho : LsIt l i o) (fi : s₀.heap.get? it = none) (dis : ∀ p ∈ N, p.2.cls ≠ .type "list_iterator") (hh : A.handled = none)
    (e : (l, listOf its n) ∈ N) (hx : its[i]? = none) (h : ∀ s', In w s₀ L m N s'.heap s'.gens s'.os → Q none s') : wpAny (model PW w) A (pyNext (.ref it)) Q E s :=
  wpAny_pyNext_list_end hh (items := its) ⟨_, (I.has _ (.head _)).1, ho.1, ho.2⟩ ⟨_, (I.has _ (.tail _ e)).1, rfl, n, rfl⟩ hx fun h' he => h { s with heap := h' } (I.lose fi he (by rw [ho.1]; decide) (fun p hp => by rw [ho.1]; exact dis p hp))
end
end Mine

end
section
open PySem PySem.W PySem.W.X PyProof.Rows PySem.Calls
set_option maxRecDepth 100000
namespace Mine
-- a value that tells the hit asked for: None, or a pair on the ledger T
noncomputable def ValOk (T : List (Addr × Obj)) (x : Option (Nat × Nat)) (v : Value) : Prop := match x with
  | none => v = .none
  | some (f, b) => ∃ p tf tb, v = .ref p ∧ (p, tupObj #[.int f tf, .int b tb]) ∈ T
theorem ValOk.mono {T T' : List (Addr × Obj)} {x : Option (Nat × Nat)} {v : Value} (h : ValOk T x v) (t : ∀ p ∈ T, p ∈ T') : ValOk T' x v := by
  cases x with
  | none => exact h
  | some q => obtain ⟨p, tf, tb, e, h⟩ := h; exact ⟨p, tf, tb, e, t _ h⟩
noncomputable def ListOk (T : List (Addr × Obj)) (l : List (Nat × Nat)) (vs : Array Value) : Prop := ∀ (k : Nat) (v : Value), vs[k]? = some v → ValOk T (lastLe l ((k : Int) - 1)) v
theorem ListOk.push {T T' : List (Addr × Obj)} {l : List (Nat × Nat)} {vs : Array Value} {v : Value} (h : ListOk T l vs) (t : ∀ p ∈ T, p ∈ T') (hv : ValOk T' (lastLe l ((vs.size : Int) - 1)) v) : ListOk T' l (vs.push v) := by
  intro k x e
  rw [Array.getElem?_push] at e
  split at e
  · rename_i q; subst q; cases e; exact hv
  · exact (h k x e).mono t
noncomputable abbrev ToldInv (w : World) (s₀ : Shared) (L : Addr) (t : Str) (pobjs : List (Addr × Obj)) (pa ta it : Addr) (l : List (Nat × Nat)) (k : Nat) (h : Heap) (g : Array GenState) (o : OsState) : Prop := (∃ m T vs n tt, In w s₀ L m ((it, rgIt (-1 + k) ((t.length : Int) + 3 - k)) :: (ta, listOf vs n) :: (T ++ pobjs)) h g o ∧ m ("prog" : Str) = some (.ref pa) ∧ m ("text" : Str) = some (.str t tt) ∧ m ("told" : Str) = some (.ref ta) ∧
    (∀ p ∈ T, p.2.cls = .type "tuple") ∧ vs.size = k ∧ ListOk T l vs) ∧ (k ≤ t.length + 3)
-- a new list of values that tell the hits for each col from -1 on
noncomputable def RowPost (w : World) (s : Shared) (l : List (Nat × Nat)) (n : Nat) (v : Value) (s' : Shared) : Prop :=
  ∃ a vs k T, v = .ref a ∧ Step s s' ∧ Ok w s'.heap ∧ s.heap.get? a = none ∧ s'.heap.get? a = some (listOf vs k) ∧ vs.size = n ∧ ListOk T l vs ∧ ∀ p ∈ T, s'.heap.get? p.1 = some p.2 ∧ hasCls p.2 = true
section
set_option maxHeartbeats 4000000 in
theorem told_code {A : Around} {n : Nat} (fit : Fit (n + 4) A) (w : World) (s : Shared) (t : Str) (tt : Tok) (pa : Addr) (pobjs : List (Addr × Obj)) (l : List (Nat × Nat)) (ok : Ok w s.heap) (hn : t.length ≤ 1048576)
    (hpo : ∀ p ∈ pobjs, s.heap.get? p.1 = some p.2 ∧ hasCls p.2 = true) (hP : Prog pobjs pa) (hq : Calm pobjs) (hl : Chain t 0 l) :
    codeAny (model PW w) A (.call (.ref 213) ⟨[.ref pa, .str t tt], []⟩) (fun r s' => ∃ v, r = .ok (.ret v) ∧ RowPost w s l (t.length + 3) v s') s := by
  refine' enter (name := "_law_told") (qual := "_law_told") (params := parsOf 14) (body := _) (scope := _) (dV := .none) (kV := .none) (doc := .none) (pm := .str "law_il0124_01" 422) (cdv := .ref 212) (ct := .none) (an := none) (od := none)
    (binds := [("prog", .ref pa), ("text", .str t tt)]) fit ok ?hl ?hcd ?hb ?hloc ?hcell ?h ?h1 ?h2 ?h3
  case hl => exact (by kernel_rfl : (K w.params).lookup 213 = some { cls := .type "function", data := .func (fnOf "_law_told" "_law_told" (parsOf 14) (bodyOf 14) (scopeOf 14) .none .none .none (.str "law_il0124_01" 422) none (.ref 212) .none) })
  case hcd => kernel_rfl
  case hloc => rfl
  case hcell => decide
  case h1 => rfl
  case h2 => rfl
  case h3 => rfl
  case hb => exact BindsTo.of_eq rfl
  case h =>
    intro s1 I0 k1
    have I1 := I0.old hpo
    clear I0
    generalize hB : bodyOf 14 = B
    generalize hS : scopeOf 14 = S
    conv at hB => lhs; whnf
    conv at hS => lhs; whnf
    subst hB hS
    generalize hA : A.deeper _ = A'
    have fA : Fit (n + 3) A' := hA ▸ fit.deeper
    (repeat' (first | ((with_reducible show wpAny _ _ (eval (Expr.Name _ _) _) _ _ _); first | with_reducible (first | refine ldv (by assumption) (by ((repeat (first | assumption | exact upd_same | refine Eq.trans (upd_ne (by decide)) ?_)); all_goals rfl)) ?_ | refine glv (by assumption) (g_search_reverse _) ?_ | refine biv (by assumption) (gn_len _) gb_len ?_ | refine biv (by assumption) (gn_range _) gb_range ?_) | (first | refine ldv (by assumption) (by ((repeat (first | assumption | exact upd_same | refine Eq.trans (upd_ne (by decide)) ?_)); all_goals rfl)) ?_ | refine glv (by assumption) (g_search_reverse _) ?_ | refine biv (by assumption) (gn_len _) gb_len ?_ | refine biv (by assumption) (gn_range _) gb_range ?_)) | ((with_reducible show wpAny _ _ (getMethod (Value.ref _) _ _) _ _ _); first | with_reducible (first | (refine getm_hit (by assumption) (by assumption) (by assumption) (by assumption) ?_; intro _ _ _ _ _ _ _) | refine getm_append (by assumption) (by assumption) ?_) | (first | (refine getm_hit (by assumption) (by assumption) (by assumption) (by assumption) ?_; intro _ _ _ _ _ _ _) | refine getm_append (by assumption) (by assumption) ?_)) | ((with_reducible show wpAny _ _ (callWith _ (Value.ref _) _ _ _) _ _ _); first | with_reducible ((refine callSpanT (by assumption) (by assumption) (by assumption) (by assumption) ?_; intro _ _ _ _ _)) | ((refine callSpanT (by assumption) (by assumption) (by assumption) (by assumption) ?_; intro _ _ _ _ _))) | ((with_reducible show wpAny _ _ (newList _) _ _ _); first | with_reducible ((refine newList_In (by assumption) ?_; intro _ _ _ _)) | ((refine newList_In (by assumption) ?_; intro _ _ _ _))) | ((with_reducible show wpAny _ _ (storeName _ _ _) _ _ _); first | with_reducible ((refine stv (by assumption) ?_; intro _ _ _)) | ((refine stv (by assumption) ?_; intro _ _ _))) | ((with_reducible show wpAny _ _ _ _ _ _); walk1) | ((with_reducible show ite _ _ _); walk1)))
    rename_i s2 I2 frt kt s3 I3 hs3
    refine wpAny_For ?_
    (repeat' (first | ((with_reducible show wpAny _ _ (eval (Expr.Name _ _) _) _ _ _); first | with_reducible (first | refine ldv (by assumption) (by ((repeat (first | assumption | exact upd_same | refine Eq.trans (upd_ne (by decide)) ?_)); all_goals rfl)) ?_ | refine glv (by assumption) (g_search_reverse _) ?_ | refine biv (by assumption) (gn_len _) gb_len ?_ | refine biv (by assumption) (gn_range _) gb_range ?_) | (first | refine ldv (by assumption) (by ((repeat (first | assumption | exact upd_same | refine Eq.trans (upd_ne (by decide)) ?_)); all_goals rfl)) ?_ | refine glv (by assumption) (g_search_reverse _) ?_ | refine biv (by assumption) (gn_len _) gb_len ?_ | refine biv (by assumption) (gn_range _) gb_range ?_)) | ((with_reducible show wpAny _ _ (getMethod (Value.ref _) _ _) _ _ _); first | with_reducible (first | (refine getm_hit (by assumption) (by assumption) (by assumption) (by assumption) ?_; intro _ _ _ _ _ _ _) | refine getm_append (by assumption) (by assumption) ?_) | (first | (refine getm_hit (by assumption) (by assumption) (by assumption) (by assumption) ?_; intro _ _ _ _ _ _ _) | refine getm_append (by assumption) (by assumption) ?_)) | ((with_reducible show wpAny _ _ (callWith _ (Value.ref _) _ _ _) _ _ _); first | with_reducible ((refine callSpanT (by assumption) (by assumption) (by assumption) (by assumption) ?_; intro _ _ _ _ _)) | ((refine callSpanT (by assumption) (by assumption) (by assumption) (by assumption) ?_; intro _ _ _ _ _))) | ((with_reducible show wpAny _ _ (newList _) _ _ _); first | with_reducible ((refine newList_In (by assumption) ?_; intro _ _ _ _)) | ((refine newList_In (by assumption) ?_; intro _ _ _ _))) | ((with_reducible show wpAny _ _ (storeName _ _ _) _ _ _); first | with_reducible ((refine stv (by assumption) ?_; intro _ _ _)) | ((refine stv (by assumption) ?_; intro _ _ _))) | ((with_reducible show wpAny _ _ _ _ _ _); walk1) | ((with_reducible show ite _ _ _); walk1)))
    refine range_In (I3) (by omega) (by omega) (by omega) fun s4 it I4 fit4 => ?_
    generalize hta : s1.heap.objs.size = ta at *
    have fta : s.heap.get? ta = none := frt
    refine codeAny_mono (R := fun r s' => r = .ok .next ∧ ∃ m T vs n, In w s s.heap.objs.size m ((ta, listOf vs n) :: (T ++ pobjs)) s'.heap s'.gens s'.os ∧ m ("told" : Str) = some (.ref ta) ∧ vs.size = t.length + 3 ∧ ListOk T l vs)
      (codeAny_forLoop (I := fun k s' => ∃ i, k = t.length + 3 - i ∧ ToldInv w s s.heap.objs.size t pobjs pa ta it l i s'.heap s'.gens s'.os) ?turn (t.length + 3) ?init) ?cont
    case init =>
      refine ⟨0, rfl, ⟨⟨_, [], #[], 0, tt, I4.mono fun p hp => ?_, rfl, rfl, rfl, (fun _ hp => nomatch hp), rfl, (fun k v e => nomatch e)⟩, by omega⟩⟩
      rcases List.mem_cons.mp hp with rfl | hp
      · have : rgIt (-1 + ((0 : Nat) : Int)) ((t.length : Int) + 3 - ((0 : Nat) : Int)) = rgIt (-1) ((t.length : Int) + 2 - -1) := by
          rw [show (-1 + ((0 : Nat) : Int)) = -1 by omega, show ((t.length : Int) + 3 - ((0 : Nat) : Int)) = (t.length : Int) + 2 - -1 by omega]
        rw [this]; exact .head _
      · rcases List.mem_cons.mp hp with rfl | hp
        · exact .tail _ (.head _)
        · exact .tail _ (.tail _ (List.mem_append_left _ hp))
    case cont => 
      rintro r s5 ⟨rfl, m, T, vs, n', I5, g, hvs, hL⟩
      dsimp only
      clear I4 I3 I2
      (repeat' (first | ((with_reducible show wpAny _ _ (eval (Expr.Name _ _) _) _ _ _); first | with_reducible (first | refine ldv (by assumption) (by ((repeat (first | assumption | exact upd_same | refine Eq.trans (upd_ne (by decide)) ?_)); all_goals rfl)) ?_ | refine glv (by assumption) (g_search_reverse _) ?_ | refine biv (by assumption) (gn_len _) gb_len ?_ | refine biv (by assumption) (gn_range _) gb_range ?_) | (first | refine ldv (by assumption) (by ((repeat (first | assumption | exact upd_same | refine Eq.trans (upd_ne (by decide)) ?_)); all_goals rfl)) ?_ | refine glv (by assumption) (g_search_reverse _) ?_ | refine biv (by assumption) (gn_len _) gb_len ?_ | refine biv (by assumption) (gn_range _) gb_range ?_)) | ((with_reducible show wpAny _ _ (getMethod (Value.ref _) _ _) _ _ _); first | with_reducible (first | (refine getm_hit (by assumption) (by assumption) (by assumption) (by assumption) ?_; intro _ _ _ _ _ _ _) | refine getm_append (by assumption) (by assumption) ?_) | (first | (refine getm_hit (by assumption) (by assumption) (by assumption) (by assumption) ?_; intro _ _ _ _ _ _ _) | refine getm_append (by assumption) (by assumption) ?_)) | ((with_reducible show wpAny _ _ (callWith _ (Value.ref _) _ _ _) _ _ _); first | with_reducible ((refine callSpanT (by assumption) (by assumption) (by assumption) (by assumption) ?_; intro _ _ _ _ _)) | ((refine callSpanT (by assumption) (by assumption) (by assumption) (by assumption) ?_; intro _ _ _ _ _))) | ((with_reducible show wpAny _ _ (newList _) _ _ _); first | with_reducible ((refine newList_In (by assumption) ?_; intro _ _ _ _)) | ((refine newList_In (by assumption) ?_; intro _ _ _ _))) | ((with_reducible show wpAny _ _ (storeName _ _ _) _ _ _); first | with_reducible ((refine stv (by assumption) ?_; intro _ _ _)) | ((refine stv (by assumption) ?_; intro _ _ _))) | ((with_reducible show wpAny _ _ _ _ _ _); walk1) | ((with_reducible show ite _ _ _); walk1)))
      exact ⟨_, rfl, ta, vs, n', T, rfl, ⟨I5.ext, I5.there, I5.gens, I5.os⟩, I5.ok, fta, (I5.has _ (.head _)).1, hvs, hL, fun p hp => ⟨(I5.has p (.tail _ (List.mem_append_left _ hp))).1, (I5.has p (.tail _ (List.mem_append_left _ hp))).2.2⟩⟩
    case turn => 
      clear I4 I3 I2
      rintro k s5 ⟨i, rfl, ⟨m, T, vs, n', tt', I, g1, g2, g3, hT, hvs, hL⟩, hle⟩
      have dis : ∀ p ∈ (ta, listOf vs n') :: (T ++ pobjs), p.2.cls ≠ .type "range_iterator" := fun p hp => by
        rcases List.mem_cons.mp hp with rfl | hp
        · exact (show Value.type "list" ≠ .type "range_iterator" by decide)
        · rcases List.mem_append.mp hp with hp | hp
          · rw [hT p hp]; exact (show Value.type "tuple" ≠ .type "range_iterator" by decide)
          · exact (hq p hp).2
      have disL : ∀ p ∈ (it, rgIt (-1 + (i : Int) + 1) ((t.length : Int) + 3 - i - 1)) :: (T ++ pobjs), p.2.cls ≠ .type "list" := fun p hp => by
        rcases List.mem_cons.mp hp with rfl | hp
        · exact (show Value.type "range_iterator" ≠ .type "list" by decide)
        · rcases List.mem_append.mp hp with hp | hp
          · rw [hT p hp]; exact (show Value.type "tuple" ≠ .type "list" by decide)
          · exact (hq p hp).1
      by_cases hlt : i < t.length + 3
      · have next : ∀ {x : Option (Nat × Nat)} {s' : Shared} {m' : LMap} {T' : List (Addr × Obj)} {v : Value}, lastLe l ((i : Int) - 1) = x →
            In w s s.heap.objs.size m' ((ta, listOf (vs.push v) (n' + 1)) :: (it, rgIt (-1 + (i : Int) + 1) ((t.length : Int) + 3 - i - 1)) :: (T' ++ pobjs)) s'.heap s'.gens s'.os →
            m' ("prog" : Str) = some (.ref pa) → m' ("text" : Str) = some (.str t tt') → m' ("told" : Str) = some (.ref ta) → (∀ p ∈ T', p.2.cls = .type "tuple") → (∀ p ∈ T, p ∈ T') → ValOk T' x v →
            ∃ k, k < t.length + 3 - i ∧ ∃ i, k = t.length + 3 - i ∧ ToldInv w s s.heap.objs.size t pobjs pa ta it l i s'.heap s'.gens s'.os := by
          intro x s' m' T' v hx I' h1 h2 h3 h4 h5 h6
          refine ⟨t.length + 3 - (i + 1), by omega, i + 1, rfl, ⟨m', T', vs.push v, n' + 1, tt', I'.mono fun p hp => ?_, h1, h2, h3, h4, by rw [Array.size_push, hvs], hL.push h5 (by rw [hvs, hx]; exact h6)⟩, by omega⟩
          rcases List.mem_cons.mp hp with rfl | hp
          · have : rgIt (-1 + ((i + 1 : Nat) : Int)) ((t.length : Int) + 3 - ((i + 1 : Nat) : Int)) = rgIt (-1 + (i : Int) + 1) ((t.length : Int) + 3 - i - 1) := by
              rw [show (-1 + ((i + 1 : Nat) : Int)) = -1 + (i : Int) + 1 by omega, show ((t.length : Int) + 3 - ((i + 1 : Nat) : Int)) = (t.length : Int) + 3 - i - 1 by omega]
            rw [this]; exact .tail _ (.head _)
          · rcases List.mem_cons.mp hp with rfl | hp
            · exact .head _
            · exact .tail _ (.tail _ hp)
        refine next_In I fit4 dis (by omega) fun s6 tk I6 => ?_
        dsimp only
        clear I
        (repeat' (first | ((with_reducible show wpAny _ _ (eval (Expr.Name _ _) _) _ _ _); first | with_reducible (first | refine ldv (by assumption) (by ((repeat (first | assumption | exact upd_same | refine Eq.trans (upd_ne (by decide)) ?_)); all_goals rfl)) ?_ | refine glv (by assumption) (g_search_reverse _) ?_ | refine biv (by assumption) (gn_len _) gb_len ?_ | refine biv (by assumption) (gn_range _) gb_range ?_) | (first | refine ldv (by assumption) (by ((repeat (first | assumption | exact upd_same | refine Eq.trans (upd_ne (by decide)) ?_)); all_goals rfl)) ?_ | refine glv (by assumption) (g_search_reverse _) ?_ | refine biv (by assumption) (gn_len _) gb_len ?_ | refine biv (by assumption) (gn_range _) gb_range ?_)) | ((with_reducible show wpAny _ _ (getMethod (Value.ref _) _ _) _ _ _); first | with_reducible (first | (refine getm_hit (by assumption) (by assumption) (by assumption) (by assumption) ?_; intro _ _ _ _ _ _ _) | refine getm_append (by assumption) (by assumption) ?_) | (first | (refine getm_hit (by assumption) (by assumption) (by assumption) (by assumption) ?_; intro _ _ _ _ _ _ _) | refine getm_append (by assumption) (by assumption) ?_)) | ((with_reducible show wpAny _ _ (callWith _ (Value.ref _) _ _ _) _ _ _); first | with_reducible ((refine callSpanT (by assumption) (by assumption) (by assumption) (by assumption) ?_; intro _ _ _ _ _)) | ((refine callSpanT (by assumption) (by assumption) (by assumption) (by assumption) ?_; intro _ _ _ _ _))) | ((with_reducible show wpAny _ _ (newList _) _ _ _); first | with_reducible ((refine newList_In (by assumption) ?_; intro _ _ _ _)) | ((refine newList_In (by assumption) ?_; intro _ _ _ _))) | ((with_reducible show wpAny _ _ (storeName _ _ _) _ _ _); first | with_reducible ((refine stv (by assumption) ?_; intro _ _ _)) | ((refine stv (by assumption) ?_; intro _ _ _))) | ((with_reducible show wpAny _ _ _ _ _ _); walk1) | ((with_reducible show ite _ _ _); walk1)))
        rename_i s7 I7 _
        refine callWith_K I7.ok.k (by kernel_rfl) ?_
        (repeat' (first | ((with_reducible show wpAny _ _ (eval (Expr.Name _ _) _) _ _ _); first | with_reducible (first | refine ldv (by assumption) (by ((repeat (first | assumption | exact upd_same | refine Eq.trans (upd_ne (by decide)) ?_)); all_goals rfl)) ?_ | refine glv (by assumption) (g_search_reverse _) ?_ | refine biv (by assumption) (gn_len _) gb_len ?_ | refine biv (by assumption) (gn_range _) gb_range ?_) | (first | refine ldv (by assumption) (by ((repeat (first | assumption | exact upd_same | refine Eq.trans (upd_ne (by decide)) ?_)); all_goals rfl)) ?_ | refine glv (by assumption) (g_search_reverse _) ?_ | refine biv (by assumption) (gn_len _) gb_len ?_ | refine biv (by assumption) (gn_range _) gb_range ?_)) | ((with_reducible show wpAny _ _ (getMethod (Value.ref _) _ _) _ _ _); first | with_reducible (first | (refine getm_hit (by assumption) (by assumption) (by assumption) (by assumption) ?_; intro _ _ _ _ _ _ _) | refine getm_append (by assumption) (by assumption) ?_) | (first | (refine getm_hit (by assumption) (by assumption) (by assumption) (by assumption) ?_; intro _ _ _ _ _ _ _) | refine getm_append (by assumption) (by assumption) ?_)) | ((with_reducible show wpAny _ _ (callWith _ (Value.ref _) _ _ _) _ _ _); first | with_reducible ((refine callSpanT (by assumption) (by assumption) (by assumption) (by assumption) ?_; intro _ _ _ _ _)) | ((refine callSpanT (by assumption) (by assumption) (by assumption) (by assumption) ?_; intro _ _ _ _ _))) | ((with_reducible show wpAny _ _ (newList _) _ _ _); first | with_reducible ((refine newList_In (by assumption) ?_; intro _ _ _ _)) | ((refine newList_In (by assumption) ?_; intro _ _ _ _))) | ((with_reducible show wpAny _ _ (storeName _ _ _) _ _ _); first | with_reducible ((refine stv (by assumption) ?_; intro _ _ _)) | ((refine stv (by assumption) ?_; intro _ _ _))) | ((with_reducible show wpAny _ _ _ _ _ _); walk1) | ((with_reducible show ite _ _ _); walk1)))
        refine ⟨I7.ok.k, wpAny_mono (sr_call (n := n) fA w _ t _ _ _ pa pobjs l I7.ok hn (fun p hp => ?_) hP hl _) (fun v s8 hs => ?_) (fun _ _ x => x)⟩
        · have := I7.has p (.tail _ (.tail _ (List.mem_append_right _ hp)))
          exact ⟨this.1, this.2.2⟩
        obtain ⟨st8, ok8, hs⟩ := hs
        have ci : (-1 + (i : Int)) = (i : Int) - 1 := by omega
        rw [ci] at hs
        have hv : lastLe l ((i : Int) - 1) = lastLe l ((vs.size : Int) - 1) := by rw [hvs]
        cases hx : lastLe l ((i : Int) - 1) with
        | none =>
          rw [hx] at hs
          subst hs
          have I8 := I7.call st8 ok8
          clear I7
          have hta : (ta, listOf vs n') ∈ (it, rgIt (-1 + (i : Int) + 1) ((t.length : Int) + 3 - i - 1)) :: (ta, listOf vs n') :: (T ++ pobjs) := .tail _ (.head _)
          (repeat' (first | ((with_reducible show wpAny _ _ (eval (Expr.Name _ _) _) _ _ _); first | with_reducible (first | refine ldv (by assumption) (by ((repeat (first | assumption | exact upd_same | refine Eq.trans (upd_ne (by decide)) ?_)); all_goals rfl)) ?_ | refine glv (by assumption) (g_search_reverse _) ?_ | refine biv (by assumption) (gn_len _) gb_len ?_ | refine biv (by assumption) (gn_range _) gb_range ?_) | (first | refine ldv (by assumption) (by ((repeat (first | assumption | exact upd_same | refine Eq.trans (upd_ne (by decide)) ?_)); all_goals rfl)) ?_ | refine glv (by assumption) (g_search_reverse _) ?_ | refine biv (by assumption) (gn_len _) gb_len ?_ | refine biv (by assumption) (gn_range _) gb_range ?_)) | ((with_reducible show wpAny _ _ (getMethod (Value.ref _) _ _) _ _ _); first | with_reducible (first | (refine getm_hit (by assumption) (by assumption) (by assumption) (by assumption) ?_; intro _ _ _ _ _ _ _) | refine getm_append (by assumption) (by assumption) ?_) | (first | (refine getm_hit (by assumption) (by assumption) (by assumption) (by assumption) ?_; intro _ _ _ _ _ _ _) | refine getm_append (by assumption) (by assumption) ?_)) | ((with_reducible show wpAny _ _ (callWith _ (Value.ref _) _ _ _) _ _ _); first | with_reducible ((refine callSpanT (by assumption) (by assumption) (by assumption) (by assumption) ?_; intro _ _ _ _ _)) | ((refine callSpanT (by assumption) (by assumption) (by assumption) (by assumption) ?_; intro _ _ _ _ _))) | ((with_reducible show wpAny _ _ (newList _) _ _ _); first | with_reducible ((refine newList_In (by assumption) ?_; intro _ _ _ _)) | ((refine newList_In (by assumption) ?_; intro _ _ _ _))) | ((with_reducible show wpAny _ _ (storeName _ _ _) _ _ _); first | with_reducible ((refine stv (by assumption) ?_; intro _ _ _)) | ((refine stv (by assumption) ?_; intro _ _ _))) | ((with_reducible show wpAny _ _ _ _ _ _); walk1) | ((with_reducible show ite _ _ _); walk1)))
          rename_i s9 I9 _
          refine append_In (n := n') (N := (it, rgIt (-1 + (i : Int) + 1) ((t.length : Int) + 3 - i - 1)) :: (T ++ pobjs)) (I9.mono fun p hp => ?_) fta (fun p hp => ?_) (fun s10 I10 => ?_) (by rw [hvs, sizeLine_eq]; omega)
          · rcases List.mem_cons.mp hp with rfl | hp
            · exact .tail _ (.head _)
            · rcases List.mem_cons.mp hp with rfl | hp
              · exact .head _
              · exact .tail _ (.tail _ hp)
          · exact disL p hp
          (repeat' (first | ((with_reducible show wpAny _ _ (eval (Expr.Name _ _) _) _ _ _); first | with_reducible (first | refine ldv (by assumption) (by ((repeat (first | assumption | exact upd_same | refine Eq.trans (upd_ne (by decide)) ?_)); all_goals rfl)) ?_ | refine glv (by assumption) (g_search_reverse _) ?_ | refine biv (by assumption) (gn_len _) gb_len ?_ | refine biv (by assumption) (gn_range _) gb_range ?_) | (first | refine ldv (by assumption) (by ((repeat (first | assumption | exact upd_same | refine Eq.trans (upd_ne (by decide)) ?_)); all_goals rfl)) ?_ | refine glv (by assumption) (g_search_reverse _) ?_ | refine biv (by assumption) (gn_len _) gb_len ?_ | refine biv (by assumption) (gn_range _) gb_range ?_)) | ((with_reducible show wpAny _ _ (getMethod (Value.ref _) _ _) _ _ _); first | with_reducible (first | (refine getm_hit (by assumption) (by assumption) (by assumption) (by assumption) ?_; intro _ _ _ _ _ _ _) | refine getm_append (by assumption) (by assumption) ?_) | (first | (refine getm_hit (by assumption) (by assumption) (by assumption) (by assumption) ?_; intro _ _ _ _ _ _ _) | refine getm_append (by assumption) (by assumption) ?_)) | ((with_reducible show wpAny _ _ (callWith _ (Value.ref _) _ _ _) _ _ _); first | with_reducible ((refine callSpanT (by assumption) (by assumption) (by assumption) (by assumption) ?_; intro _ _ _ _ _)) | ((refine callSpanT (by assumption) (by assumption) (by assumption) (by assumption) ?_; intro _ _ _ _ _))) | ((with_reducible show wpAny _ _ (newList _) _ _ _); first | with_reducible ((refine newList_In (by assumption) ?_; intro _ _ _ _)) | ((refine newList_In (by assumption) ?_; intro _ _ _ _))) | ((with_reducible show wpAny _ _ (storeName _ _ _) _ _ _); first | with_reducible ((refine stv (by assumption) ?_; intro _ _ _)) | ((refine stv (by assumption) ?_; intro _ _ _))) | ((with_reducible show wpAny _ _ _ _ _ _); walk1) | ((with_reducible show ite _ _ _); walk1)))
          exact next hx I10 (by ((repeat (first | assumption | exact upd_same | refine Eq.trans (upd_ne (by decide)) ?_)); all_goals rfl)) (by ((repeat (first | assumption | exact upd_same | refine Eq.trans (upd_ne (by decide)) ?_)); all_goals rfl)) (by ((repeat (first | assumption | exact upd_same | refine Eq.trans (upd_ne (by decide)) ?_)); all_goals rfl)) hT (fun _ h => h) rfl
        | some q =>
          rw [hx] at hs
          obtain ⟨f, b⟩ := q
          obtain ⟨ha, objs, rfl, md, H⟩ := hs
          have I8 := I7.more (I7.call st8 ok8) md
          clear I7
          have hta : (ta, listOf vs n') ∈ objs ++ (it, rgIt (-1 + (i : Int) + 1) ((t.length : Int) + 3 - i - 1)) :: (ta, listOf vs n') :: (T ++ pobjs) := List.mem_append_right _ (.tail _ (.head _))
          have hob : ∀ p ∈ objs, p ∈ objs ++ (it, rgIt (-1 + (i : Int) + 1) ((t.length : Int) + 3 - i - 1)) :: (ta, listOf vs n') :: (T ++ pobjs) := fun p hp => List.mem_append_left _ hp
          (repeat' (first | ((with_reducible show wpAny _ _ (eval (Expr.Name _ _) _) _ _ _); first | with_reducible (first | refine ldv (by assumption) (by ((repeat (first | assumption | exact upd_same | refine Eq.trans (upd_ne (by decide)) ?_)); all_goals rfl)) ?_ | refine glv (by assumption) (g_search_reverse _) ?_ | refine biv (by assumption) (gn_len _) gb_len ?_ | refine biv (by assumption) (gn_range _) gb_range ?_) | (first | refine ldv (by assumption) (by ((repeat (first | assumption | exact upd_same | refine Eq.trans (upd_ne (by decide)) ?_)); all_goals rfl)) ?_ | refine glv (by assumption) (g_search_reverse _) ?_ | refine biv (by assumption) (gn_len _) gb_len ?_ | refine biv (by assumption) (gn_range _) gb_range ?_)) | ((with_reducible show wpAny _ _ (getMethod (Value.ref _) _ _) _ _ _); first | with_reducible (first | (refine getm_hit (by assumption) (by assumption) (by assumption) (by assumption) ?_; intro _ _ _ _ _ _ _) | refine getm_append (by assumption) (by assumption) ?_) | (first | (refine getm_hit (by assumption) (by assumption) (by assumption) (by assumption) ?_; intro _ _ _ _ _ _ _) | refine getm_append (by assumption) (by assumption) ?_)) | ((with_reducible show wpAny _ _ (callWith _ (Value.ref _) _ _ _) _ _ _); first | with_reducible ((refine callSpanT (by assumption) (by assumption) (by assumption) (by assumption) ?_; intro _ _ _ _ _)) | ((refine callSpanT (by assumption) (by assumption) (by assumption) (by assumption) ?_; intro _ _ _ _ _))) | ((with_reducible show wpAny _ _ (newList _) _ _ _); first | with_reducible ((refine newList_In (by assumption) ?_; intro _ _ _ _)) | ((refine newList_In (by assumption) ?_; intro _ _ _ _))) | ((with_reducible show wpAny _ _ (storeName _ _ _) _ _ _); first | with_reducible ((refine stv (by assumption) ?_; intro _ _ _)) | ((refine stv (by assumption) ?_; intro _ _ _))) | ((with_reducible show wpAny _ _ _ _ _ _); walk1) | ((with_reducible show ite _ _ _); walk1)))
          rename_i p tf tb I9
          have hT9 : ∀ x ∈ (p, tupObj #[.int f tf, .int b tb]) :: T, x.2.cls = .type "tuple" := fun x hx => by
            rcases List.mem_cons.mp hx with rfl | hx
            · rfl
            · exact hT x hx
          refine append_In (n := n') (N := (it, rgIt (-1 + (i : Int) + 1) ((t.length : Int) + 3 - i - 1)) :: (((p, tupObj #[.int f tf, .int b tb]) :: T) ++ pobjs)) (I9.mono fun x hx => ?_) fta (fun x hx => ?_) (fun s10 I10 => ?_) (by rw [hvs, sizeLine_eq]; omega)
          · rcases List.mem_cons.mp hx with rfl | hx
            · exact .tail _ hta
            · rcases List.mem_cons.mp hx with rfl | hx
              · exact .tail _ (List.mem_append_right _ (.head _))
              · rcases List.mem_cons.mp hx with rfl | hx
                · exact .head _
                · exact .tail _ (List.mem_append_right _ (.tail _ (.tail _ hx)))
          · rcases List.mem_cons.mp hx with rfl | hx
            · exact (show Value.type "range_iterator" ≠ .type "list" by decide)
            · rcases List.mem_cons.mp hx with rfl | hx
              · exact (show Value.type "tuple" ≠ .type "list" by decide)
              · exact disL x (.tail _ hx)
          (repeat' (first | ((with_reducible show wpAny _ _ (eval (Expr.Name _ _) _) _ _ _); first | with_reducible (first | refine ldv (by assumption) (by ((repeat (first | assumption | exact upd_same | refine Eq.trans (upd_ne (by decide)) ?_)); all_goals rfl)) ?_ | refine glv (by assumption) (g_search_reverse _) ?_ | refine biv (by assumption) (gn_len _) gb_len ?_ | refine biv (by assumption) (gn_range _) gb_range ?_) | (first | refine ldv (by assumption) (by ((repeat (first | assumption | exact upd_same | refine Eq.trans (upd_ne (by decide)) ?_)); all_goals rfl)) ?_ | refine glv (by assumption) (g_search_reverse _) ?_ | refine biv (by assumption) (gn_len _) gb_len ?_ | refine biv (by assumption) (gn_range _) gb_range ?_)) | ((with_reducible show wpAny _ _ (getMethod (Value.ref _) _ _) _ _ _); first | with_reducible (first | (refine getm_hit (by assumption) (by assumption) (by assumption) (by assumption) ?_; intro _ _ _ _ _ _ _) | refine getm_append (by assumption) (by assumption) ?_) | (first | (refine getm_hit (by assumption) (by assumption) (by assumption) (by assumption) ?_; intro _ _ _ _ _ _ _) | refine getm_append (by assumption) (by assumption) ?_)) | ((with_reducible show wpAny _ _ (callWith _ (Value.ref _) _ _ _) _ _ _); first | with_reducible ((refine callSpanT (by assumption) (by assumption) (by assumption) (by assumption) ?_; intro _ _ _ _ _)) | ((refine callSpanT (by assumption) (by assumption) (by assumption) (by assumption) ?_; intro _ _ _ _ _))) | ((with_reducible show wpAny _ _ (newList _) _ _ _); first | with_reducible ((refine newList_In (by assumption) ?_; intro _ _ _ _)) | ((refine newList_In (by assumption) ?_; intro _ _ _ _))) | ((with_reducible show wpAny _ _ (storeName _ _ _) _ _ _); first | with_reducible ((refine stv (by assumption) ?_; intro _ _ _)) | ((refine stv (by assumption) ?_; intro _ _ _))) | ((with_reducible show wpAny _ _ _ _ _ _); walk1) | ((with_reducible show ite _ _ _); walk1)))
          exact next hx I10 (by ((repeat (first | assumption | exact upd_same | refine Eq.trans (upd_ne (by decide)) ?_)); all_goals rfl)) (by ((repeat (first | assumption | exact upd_same | refine Eq.trans (upd_ne (by decide)) ?_)); all_goals rfl)) (by ((repeat (first | assumption | exact upd_same | refine Eq.trans (upd_ne (by decide)) ?_)); all_goals rfl)) hT9 (fun _ h => .tail _ h) ⟨p, tf, tb, rfl, .head _⟩
      · refine nextEnd_In I fit4 dis fA.hd (by omega) fun s6 I6 => ?_
        dsimp only
        (repeat' (first | ((with_reducible show wpAny _ _ (eval (Expr.Name _ _) _) _ _ _); first | with_reducible (first | refine ldv (by assumption) (by ((repeat (first | assumption | exact upd_same | refine Eq.trans (upd_ne (by decide)) ?_)); all_goals rfl)) ?_ | refine glv (by assumption) (g_search_reverse _) ?_ | refine biv (by assumption) (gn_len _) gb_len ?_ | refine biv (by assumption) (gn_range _) gb_range ?_) | (first | refine ldv (by assumption) (by ((repeat (first | assumption | exact upd_same | refine Eq.trans (upd_ne (by decide)) ?_)); all_goals rfl)) ?_ | refine glv (by assumption) (g_search_reverse _) ?_ | refine biv (by assumption) (gn_len _) gb_len ?_ | refine biv (by assumption) (gn_range _) gb_range ?_)) | ((with_reducible show wpAny _ _ (getMethod (Value.ref _) _ _) _ _ _); first | with_reducible (first | (refine getm_hit (by assumption) (by assumption) (by assumption) (by assumption) ?_; intro _ _ _ _ _ _ _) | refine getm_append (by assumption) (by assumption) ?_) | (first | (refine getm_hit (by assumption) (by assumption) (by assumption) (by assumption) ?_; intro _ _ _ _ _ _ _) | refine getm_append (by assumption) (by assumption) ?_)) | ((with_reducible show wpAny _ _ (callWith _ (Value.ref _) _ _ _) _ _ _); first | with_reducible ((refine callSpanT (by assumption) (by assumption) (by assumption) (by assumption) ?_; intro _ _ _ _ _)) | ((refine callSpanT (by assumption) (by assumption) (by assumption) (by assumption) ?_; intro _ _ _ _ _))) | ((with_reducible show wpAny _ _ (newList _) _ _ _); first | with_reducible ((refine newList_In (by assumption) ?_; intro _ _ _ _)) | ((refine newList_In (by assumption) ?_; intro _ _ _ _))) | ((with_reducible show wpAny _ _ (storeName _ _ _) _ _ _); first | with_reducible ((refine stv (by assumption) ?_; intro _ _ _)) | ((refine stv (by assumption) ?_; intro _ _ _))) | ((with_reducible show wpAny _ _ _ _ _ _); walk1) | ((with_reducible show ite _ _ _); walk1)))
        exact ⟨rfl, m, T, vs, n', I6, g3, by omega, hL⟩
theorem told_call {A : Around} {n : Nat} (fit : Fit (n + 4) A) (w : World) (s : Shared) (t : Str) (tt : Tok) (pa : Addr) (pobjs : List (Addr × Obj)) (l : List (Nat × Nat)) (ok : Ok w s.heap) (hn : t.length ≤ 1048576)
    (hpo : ∀ p ∈ pobjs, s.heap.get? p.1 = some p.2 ∧ hasCls p.2 = true) (hP : Prog pobjs pa) (hq : Calm pobjs) (hl : Chain t 0 l) (E : Value → Shared → Prop) :
    wpAny (model PW w) A (call (.ref 213) [.ref pa, .str t tt]) (RowPost w s l (t.length + 3)) E s :=
  wpAny_call (codeAny_mono (told_code fit w s t tt pa pobjs l ok hn hpo hP hq hl) fun r s' h => by obtain ⟨v, rfl, h⟩ := h; exact h)
end
end Mine

end
section
open PySem PySem.W PySem.W.X PyProof.Rows PySem.Calls
set_option maxRecDepth 100000
namespace Mine
theorem lastLe_snoc {l : List (Nat × Nat)} {x : Nat × Nat} {col : Int} : lastLe (l ++ [x]) col = if (x.2 : Int) ≤ col then some x else lastLe l col := by
  unfold lastLe
  rw [List.filter_append]
  split
  · rename_i h
    rw [show List.filter (fun p => decide ((p.2 : Int) ≤ col)) [x] = [x] from List.filter_eq_self.mpr fun p hp => by
      rcases List.mem_cons.mp hp with rfl | hp
      · exact decide_eq_true h
      · exact (nomatch hp), List.getLast?_concat]
  · rename_i h
    rw [show List.filter (fun p => decide ((p.2 : Int) ≤ col)) [x] = [] from List.filter_eq_nil_iff.mpr fun p hp => by
      rcases List.mem_cons.mp hp with rfl | hp
      · rw [decide_eq_true_eq]; exact h
      · exact (nomatch hp), List.append_nil]
-- the spans' list: a pair on the ledger T for each hit
structure SpansOk (T : List (Addr × Obj)) (l : List (Nat × Nat)) (sv : Array Value) : Prop where
  size : sv.size = l.length
  at' : ∀ (k f b : Nat), l[k]? = some (f, b) → ∃ p tf tb, sv[k]? = some (.ref p) ∧ (p, tupObj #[.int f tf, .int b tb]) ∈ T
  tup : ∀ p ∈ T, p.2.cls = .type "tuple"
noncomputable abbrev LastInv (w : World) (s₀ : Shared) (L : Addr) (T : List (Addr × Obj)) (l : List (Nat × Nat)) (sv : Array Value) (n : Nat) (sa it : Addr) (col : Int) (k : Nat) (h : Heap) (g : Array GenState) (o : OsState) : Prop := (∃ m io tc lv, In w s₀ L m ((it, io) :: (sa, listOf sv n) :: T) h g o ∧ LsIt sa k io ∧ m ("spans" : Str) = some (.ref sa) ∧ m ("col" : Str) = some (.int col tc) ∧ m ("last" : Str) = some lv ∧ ValOk T (lastLe (l.take k) col) lv) ∧ (k ≤ l.length)
section
set_option maxHeartbeats 4000000 in
theorem last_code {A : Around} {n : Nat} (fit : Fit (n + 1) A) (w : World) (s : Shared) (T : List (Addr × Obj)) (l : List (Nat × Nat)) (sv : Array Value) (c : Nat) (sa : Addr) (col : Int) (tc : Tok) (ok : Ok w s.heap)
    (hsa : s.heap.get? sa = some (listOf sv c)) (hT : ∀ p ∈ T, s.heap.get? p.1 = some p.2 ∧ hasCls p.2 = true) (hS : SpansOk T l sv) :
    codeAny (model PW w) A (.call (.ref 206) ⟨[.ref sa, .int col tc], []⟩) (fun r s' => ∃ v, r = .ok (.ret v) ∧ Step s s' ∧ Ok w s'.heap ∧ ValOk T (lastLe l col) v) s := by
  refine' enter (name := "_law_last") (qual := "_law_last") (params := parsOf 13) (body := _) (scope := _) (dV := .none) (kV := .none) (doc := .none) (pm := .str "law_il0124_01" 422) (cdv := .ref 205) (ct := .none) (an := none) (od := none)
    (binds := [("spans", .ref sa), ("col", .int col tc)]) fit ok ?hl ?hcd ?hb ?hloc ?hcell ?h ?h1 ?h2 ?h3
  case hl => exact (by kernel_rfl : (K w.params).lookup 206 = some { cls := .type "function", data := .func (fnOf "_law_last" "_law_last" (parsOf 13) (bodyOf 13) (scopeOf 13) .none .none .none (.str "law_il0124_01" 422) none (.ref 205) .none) })
  case hcd => kernel_rfl
  case hloc => rfl
  case hcell => decide
  case h1 => rfl
  case h2 => rfl
  case h3 => rfl
  case hb => exact BindsTo.of_eq rfl
  case h =>
    intro s1 I0 k1
    have I1 := (I0.old (objs := (sa, listOf sv c) :: T) fun p hp => by
      rcases List.mem_cons.mp hp with rfl | hp
      · exact ⟨hsa, rfl⟩
      · exact hT p hp).mono (N' := (sa, listOf sv c) :: T) fun p hp => List.mem_append_left _ hp
    have hm : (sa, listOf sv c) ∈ (sa, listOf sv c) :: T := .head _
    clear I0
    generalize hB : bodyOf 13 = B
    generalize hS : scopeOf 13 = S
    conv at hB => lhs; whnf
    conv at hS => lhs; whnf
    subst hB hS
    generalize hA : A.deeper _ = A'
    have fA : Fit n A' := hA ▸ fit.deeper
    (repeat' (first | ((with_reducible show wpAny _ _ (eval (Expr.Name _ _) _) _ _ _); first | with_reducible (refine ldv (by assumption) (by ((repeat (first | assumption | exact upd_same | refine Eq.trans (upd_ne (by decide)) ?_)); all_goals rfl)) ?_) | (refine ldv (by assumption) (by ((repeat (first | assumption | exact upd_same | refine Eq.trans (upd_ne (by decide)) ?_)); all_goals rfl)) ?_)) | ((with_reducible show wpAny _ _ (pyIter _) _ _ _); first | with_reducible ((refine iter_In (by assumption) (by assumption) ?_; intro _ _ _ _ _ _)) | ((refine iter_In (by assumption) (by assumption) ?_; intro _ _ _ _ _ _))) | ((with_reducible show wpAny _ _ (storeName _ _ _) _ _ _); first | with_reducible ((refine stv (by assumption) ?_; intro _ _ _)) | ((refine stv (by assumption) ?_; intro _ _ _))) | ((with_reducible show wpAny _ _ _ _ _ _); walk1) | ((with_reducible show ite _ _ _); walk1)))
    refine wpAny_For ?_
    (repeat' (first | ((with_reducible show wpAny _ _ (eval (Expr.Name _ _) _) _ _ _); first | with_reducible (refine ldv (by assumption) (by ((repeat (first | assumption | exact upd_same | refine Eq.trans (upd_ne (by decide)) ?_)); all_goals rfl)) ?_) | (refine ldv (by assumption) (by ((repeat (first | assumption | exact upd_same | refine Eq.trans (upd_ne (by decide)) ?_)); all_goals rfl)) ?_)) | ((with_reducible show wpAny _ _ (pyIter _) _ _ _); first | with_reducible ((refine iter_In (by assumption) (by assumption) ?_; intro _ _ _ _ _ _)) | ((refine iter_In (by assumption) (by assumption) ?_; intro _ _ _ _ _ _))) | ((with_reducible show wpAny _ _ (storeName _ _ _) _ _ _); first | with_reducible ((refine stv (by assumption) ?_; intro _ _ _)) | ((refine stv (by assumption) ?_; intro _ _ _))) | ((with_reducible show wpAny _ _ _ _ _ _); walk1) | ((with_reducible show ite _ _ _); walk1)))
    rename_i s2 I2 _ s3 it io ho I3 fi
    have dis : ∀ p ∈ (sa, listOf sv c) :: T, p.2.cls ≠ .type "list_iterator" := fun p hp => by
      rcases List.mem_cons.mp hp with rfl | hp
      · exact (show Value.type "list" ≠ .type "list_iterator" by decide)
      · rw [hS.tup p hp]; decide
    refine codeAny_mono (R := fun r s' => r = .ok .next ∧ ∃ m lv, In w s s.heap.objs.size m [] s'.heap s'.gens s'.os ∧ m ("last" : Str) = some lv ∧ ValOk T (lastLe l col) lv)
      (codeAny_forLoop (I := fun k s' => ∃ i, k = l.length - i ∧ LastInv w s s.heap.objs.size T l sv c sa it col i s'.heap s'.gens s'.os) ?turn l.length ?init) ?cont
    case init => exact ⟨0, rfl, ⟨_, io, tc, .none, I3, ho, rfl, rfl, rfl, rfl⟩, by omega⟩
    case cont =>
      clear I3 I2 I1
      rintro r s5 ⟨rfl, m, lv, I5, g, hv⟩
      dsimp only
      (repeat' (first | ((with_reducible show wpAny _ _ (eval (Expr.Name _ _) _) _ _ _); first | with_reducible (refine ldv (by assumption) (by ((repeat (first | assumption | exact upd_same | refine Eq.trans (upd_ne (by decide)) ?_)); all_goals rfl)) ?_) | (refine ldv (by assumption) (by ((repeat (first | assumption | exact upd_same | refine Eq.trans (upd_ne (by decide)) ?_)); all_goals rfl)) ?_)) | ((with_reducible show wpAny _ _ (pyIter _) _ _ _); first | with_reducible ((refine iter_In (by assumption) (by assumption) ?_; intro _ _ _ _ _ _)) | ((refine iter_In (by assumption) (by assumption) ?_; intro _ _ _ _ _ _))) | ((with_reducible show wpAny _ _ (storeName _ _ _) _ _ _); first | with_reducible ((refine stv (by assumption) ?_; intro _ _ _)) | ((refine stv (by assumption) ?_; intro _ _ _))) | ((with_reducible show wpAny _ _ _ _ _ _); walk1) | ((with_reducible show ite _ _ _); walk1)))
      exact ⟨_, rfl, ⟨I5.ext, I5.there, I5.gens, I5.os⟩, I5.ok, hv⟩
    case turn =>
      clear I3 I2 I1 ho
      rintro k s5 ⟨i, rfl, ⟨m, io, tc', lv, I, ho, g1, g2, g3, hv⟩, hle⟩
      by_cases hlt : i < l.length
      · obtain ⟨⟨f, b⟩, hx⟩ : ∃ x, l[i]? = some x := ⟨l[i], List.getElem?_eq_getElem hlt⟩
        obtain ⟨p, tf, tb, hp, hpT⟩ := hS.at' i f b hx
        refine lsnext_In I ho fi dis hm hp fun s6 io' ho' I6 => ?_
        dsimp only
        clear I
        have ht : ∀ (s' : Shared) (m' : LMap), In w s s.heap.objs.size m' ((it, io') :: (sa, listOf sv c) :: T) s'.heap s'.gens s'.os → IsTup s'.heap p [.int f tf, .int b tb].toArray := fun s' m' I => ⟨_, (In.has I _ (.tail _ (.tail _ hpT))).1, rfl, 0, rfl⟩
        have htk : l.take (i + 1) = l.take i ++ [(f, b)] := by rw [List.take_succ, hx]; rfl
        (repeat' (first | ((with_reducible show wpAny _ _ (eval (Expr.Name _ _) _) _ _ _); first | with_reducible (refine ldv (by assumption) (by ((repeat (first | assumption | exact upd_same | refine Eq.trans (upd_ne (by decide)) ?_)); all_goals rfl)) ?_) | (refine ldv (by assumption) (by ((repeat (first | assumption | exact upd_same | refine Eq.trans (upd_ne (by decide)) ?_)); all_goals rfl)) ?_)) | ((with_reducible show wpAny _ _ (pyIter _) _ _ _); first | with_reducible ((refine iter_In (by assumption) (by assumption) ?_; intro _ _ _ _ _ _)) | ((refine iter_In (by assumption) (by assumption) ?_; intro _ _ _ _ _ _))) | ((with_reducible show wpAny _ _ (storeName _ _ _) _ _ _); first | with_reducible ((refine stv (by assumption) ?_; intro _ _ _)) | ((refine stv (by assumption) ?_; intro _ _ _))) | ((with_reducible show wpAny _ _ _ _ _ _); walk1) | ((with_reducible show ite _ _ _); walk1)))
        rename_i s7 I7 _
        refine item_tupleT (l := [.int f tf, .int b tb]) (j := 1) (x := .int b tb) (ht _ _ I7) (by decide) (by decide) (by rfl) (by rfl) ?_
        clear I6
        (repeat' (first | ((with_reducible show wpAny _ _ (eval (Expr.Name _ _) _) _ _ _); first | with_reducible (refine ldv (by assumption) (by ((repeat (first | assumption | exact upd_same | refine Eq.trans (upd_ne (by decide)) ?_)); all_goals rfl)) ?_) | (refine ldv (by assumption) (by ((repeat (first | assumption | exact upd_same | refine Eq.trans (upd_ne (by decide)) ?_)); all_goals rfl)) ?_)) | ((with_reducible show wpAny _ _ (pyIter _) _ _ _); first | with_reducible ((refine iter_In (by assumption) (by assumption) ?_; intro _ _ _ _ _ _)) | ((refine iter_In (by assumption) (by assumption) ?_; intro _ _ _ _ _ _))) | ((with_reducible show wpAny _ _ (storeName _ _ _) _ _ _); first | with_reducible ((refine stv (by assumption) ?_; intro _ _ _)) | ((refine stv (by assumption) ?_; intro _ _ _))) | ((with_reducible show wpAny _ _ _ _ _ _); walk1) | ((with_reducible show ite _ _ _); walk1)))
        · rename_i q s8 I8 _
          refine ⟨l.length - (i + 1), by omega, i + 1, rfl, ⟨_, io', tc', .ref p, I8, ho', by ((repeat (first | assumption | exact upd_same | refine Eq.trans (upd_ne (by decide)) ?_)); all_goals rfl), by ((repeat (first | assumption | exact upd_same | refine Eq.trans (upd_ne (by decide)) ?_)); all_goals rfl), by ((repeat (first | assumption | exact upd_same | refine Eq.trans (upd_ne (by decide)) ?_)); all_goals rfl), ?_⟩, hlt⟩
          rw [htk, lastLe_snoc, if_pos q]
          exact ⟨p, tf, tb, rfl, hpT⟩
        · rename_i q
          refine ⟨l.length - (i + 1), by omega, i + 1, rfl, ⟨_, io', tc', lv, I7, ho', by ((repeat (first | assumption | exact upd_same | refine Eq.trans (upd_ne (by decide)) ?_)); all_goals rfl), by ((repeat (first | assumption | exact upd_same | refine Eq.trans (upd_ne (by decide)) ?_)); all_goals rfl), by ((repeat (first | assumption | exact upd_same | refine Eq.trans (upd_ne (by decide)) ?_)); all_goals rfl), ?_⟩, hlt⟩
          rw [htk, lastLe_snoc, if_neg q]
          exact hv
      · refine lsend_In I ho fi dis fA.hd hm (Array.getElem?_eq_none (by rw [hS.size]; omega)) fun s6 I6 => ?_
        dsimp only
        (repeat' (first | ((with_reducible show wpAny _ _ (eval (Expr.Name _ _) _) _ _ _); first | with_reducible (refine ldv (by assumption) (by ((repeat (first | assumption | exact upd_same | refine Eq.trans (upd_ne (by decide)) ?_)); all_goals rfl)) ?_) | (refine ldv (by assumption) (by ((repeat (first | assumption | exact upd_same | refine Eq.trans (upd_ne (by decide)) ?_)); all_goals rfl)) ?_)) | ((with_reducible show wpAny _ _ (pyIter _) _ _ _); first | with_reducible ((refine iter_In (by assumption) (by assumption) ?_; intro _ _ _ _ _ _)) | ((refine iter_In (by assumption) (by assumption) ?_; intro _ _ _ _ _ _))) | ((with_reducible show wpAny _ _ (storeName _ _ _) _ _ _); first | with_reducible ((refine stv (by assumption) ?_; intro _ _ _)) | ((refine stv (by assumption) ?_; intro _ _ _))) | ((with_reducible show wpAny _ _ _ _ _ _); walk1) | ((with_reducible show ite _ _ _); walk1)))
        rw [List.take_of_length_le (by omega)] at hv
        exact ⟨rfl, m, lv, I6.mono (fun _ hp => nomatch hp), g3, hv⟩
theorem last_call {A : Around} {n : Nat} (fit : Fit (n + 1) A) (w : World) (s : Shared) (T : List (Addr × Obj)) (l : List (Nat × Nat)) (sv : Array Value) (c : Nat) (sa : Addr) (col : Int) (tc : Tok) (ok : Ok w s.heap)
    (hsa : s.heap.get? sa = some (listOf sv c)) (hT : ∀ p ∈ T, s.heap.get? p.1 = some p.2 ∧ hasCls p.2 = true) (hS : SpansOk T l sv) (E : Value → Shared → Prop) :
    wpAny (model PW w) A (call (.ref 206) [.ref sa, .int col tc]) (fun v s' => Step s s' ∧ Ok w s'.heap ∧ ValOk T (lastLe l col) v) E s :=
  wpAny_call (codeAny_mono (last_code fit w s T l sv c sa col tc ok hsa hT hS) fun r s' h => by obtain ⟨v, rfl, h⟩ := h; exact h)
end
end Mine

end
section
open PySem PySem.W PySem.W.X PyProof.Rows PySem.Calls
set_option maxRecDepth 100000
namespace Mine
noncomputable abbrev cellOb (v : Value) : Obj := { cls := .type "cell", data := .cell (some v) }
section
variable {w : World} {A : Around} {M : Model} {E : Value → Shared → Prop} {s s₀ : Shared} {L C a : Addr} {m : LMap} {N : List (Addr × Obj)} {env : Env}
-- rules for any frame
theorem ldE {x : Str} {pos : Pos} {v : Value} {Q : Value → Shared → Prop} (I : In w s₀ env.locals m N s.heap s.gens s.os) (hv : m x = some v) (h : Q v s)
    (hk : env.scope.kind = .function := by rfl) (hl : env.kindOf x = some .local := by rfl)
    (hd : (x == ("__debug__" : Str)) = false := by decide) : wpAny M A (eval (.Name x pos) env) Q E s := wpAny_Name (wpAny_loadName_local hk hl I.ns hv h) hd
theorem stE {x : Str} {v : Value} {Q : Unit → Shared → Prop} (I : In w s₀ env.locals m N s.heap s.gens s.os)
    (h : ∀ s', In w s₀ env.locals (upd m x v) N s'.heap s'.gens s'.os → Q () s')
    (hk : env.scope.kind = .function := by rfl) (hl : env.kindOf x = some .local := by rfl) :
    wpAny M A (storeName env x v) Q E s :=
  wpAny_storeName_local hl I.ns (fun h' hn hs => h { s with heap := h', toks := s.toks + 1 } (I.set hn hs)) (by rw [hk]; rfl)
theorem clE {x : Str} {pos : Pos} {c : Addr} {v : Value} {Q : Value → Shared → Prop} (I : In w s₀ L m N s.heap s.gens s.os) (hc : env.cells.lookup x = some c) (hv : (c, cellOb v) ∈ N) (h : Q v s)
    (hk : env.scope.kind = .function := by rfl) (hl : env.kindOf x = some .cell := by rfl)
    (hd : (x == ("__debug__" : Str)) = false := by decide) : wpAny M A (eval (.Name x pos) env) Q E s := wpAny_Name (wpAny_loadName_cell hk hl hc ⟨_, (I.has _ hv).1, rfl⟩ h) hd
theorem glE {x : Str} {pos : Pos} {v : Value} {Q : Value → Shared → Prop} (I : In w s₀ L m N s.heap s.gens s.os) (e : nsIn (K w.params) 3 x = some (some v)) (h : Q v s)
    (hk : env.scope.kind = .function := by rfl) (hx : env.kindOf x = some .globalImplicit := by rfl) (hg : env.globals = 3 := by rfl) (hd : (x == ("__debug__" : Str)) = false := by decide) :
    wpAny M A (eval (.Name x pos) env) Q E s := by
  obtain ⟨mg, n⟩ := ns_of I.ok.k (k3 w.params)
  exact Calls.Name_function_global hk hx (Calls.loadGlobal_global (hg ▸ n) (ns_val I.ok.k n e) h) hd
theorem biE {x : Str} {pos : Pos} {v : Value} {Q : Value → Shared → Prop} (I : In w s₀ L m N s.heap s.gens s.os) (e : nsIn (K w.params) 3 x = some none) (e' : bootBuiltins x = some v) (h : Q v s)
    (hk : env.scope.kind = .function := by rfl) (hx : env.kindOf x = some .globalImplicit := by rfl) (hg : env.globals = 3 := by rfl) (hb : env.builtins = 0 := by rfl) (hd : (x == ("__debug__" : Str)) = false := by decide) (hn : x ≠ ("__name__" : Str) := by decide +kernel) :
    wpAny M A (eval (.Name x pos) env) Q E s := by
  obtain ⟨mg, n⟩ := ns_of I.ok.k (k3 w.params)
  obtain ⟨mb, n', hb'⟩ := I.ok.b.ns
  exact Calls.Name_function_global hk hx (Calls.loadGlobal_builtin (hg ▸ n) (ns_val I.ok.k n e) (hb ▸ n') ((hb' _ hn).trans e') h) hd
-- another frame's dict, made within
theorem In.reframe {h h' : Heap} {g : Array GenState} {o : OsState} {m' : LMap} {dO : Obj} (I : In w s₀ L m N h g o) (n : h'.Ns h.objs.size m') (hs : Heap.SameBut h.objs.size (h.push dO) h') : In w s₀ h.objs.size m' N h' g o := by
  have k : ∀ b x, h.get? b = some x → h'.get? b = some x := fun b x e => (hs.2 b (Nat.ne_of_lt (Heap.lt_size e))).trans (Heap.get?_push_of_some _ e)
  exact ⟨n, I.fresh_size, I.ok₀, I.ext.trans (.of_keep k), fun b x e => let ⟨x', e'⟩ := I.there b x e; ⟨x', k _ _ e'⟩, I.gens, I.os, I.ok.keeps k, fun p hp => ⟨k _ _ (I.has p hp).1, Nat.ne_of_lt (Heap.lt_size (I.has p hp).1), (I.has p hp).2.2⟩⟩
-- the frame's dict is let go
theorem In.drop {h h' : Heap} {g : Array GenState} {o : OsState} {d : Drawn} {t : Nat} (I : In w s₀ L m N h g o) (hs : Heap.SameBut L h h') : Step s₀ ⟨h', g, d, t, o⟩ ∧ Ok w h' ∧ ∀ p ∈ N, h'.get? p.1 = some p.2 := by
  have ne : ∀ b o, s₀.heap.get? b = some o → b ≠ L := fun b o e q => by rw [q, I.fresh] at e; cases e
  exact ⟨⟨fun b o c e => (hs.2 b (ne b o e)).trans (I.ext b o c e), fun b o e => let ⟨o', e'⟩ := I.there b o e; ⟨o', (hs.2 b (ne b o e)).trans e'⟩, I.gens, I.os⟩, I.ok.set I.ns I.kne I.k0 hs, fun p hp => (hs.2 _ (I.has p hp).2.1).trans (I.has p hp).1⟩
theorem iterIter_In {x left : Int} {it : Addr} {Q : Value → Shared → Prop} (I : In w s₀ L m N s.heap s.gens s.os) (hi : (it, rgIt x left) ∈ N) (h : Q (.ref it) s) : wpAny (model PW w) A (pyIter (.ref it)) Q E s :=
  wpAny_pyIter_rangeiter (x := x) (left := left) (step := 1) (I.has _ hi).1 h
end
section
variable {w : World} {A : Around} {M : Model} {E : Value → Shared → Prop} {s : Shared}
theorem store_cell {env : Env} {x : Str} {c : Addr} {v0 : Option Value} {v : Value} {Q : Unit → Shared → Prop} (hk : env.scope.kind = .function) (hl : env.kindOf x = some .cell) (hc : env.cells.lookup x = some c)
    (ho : s.heap.get? c = some { cls := .type "cell", data := .cell v0 }) (h : ∀ h', h'.get? c = some (cellOb v) → Heap.SameBut c s.heap h' → Q () { s with heap := h' }) : wpAny M A (storeName env x v) Q E s := by
  rw [show storeName env x v = (cellOf env x >>= fun c => cellSet c (some v)) by unfold storeName; rw [hl, hk]; rfl]
  refine wpAny_bind (wpAny_cellOf hc ?_)
  unfold cellSet
  refine wpAny_bind (wpAny_load ho ?_)
  exact wpAny_update ho (h _ (Heap.get?_update_self _ ho rfl) (Heap.SameBut.update ..))
theorem newEnv_cell {scope : Scope} {globals : Addr} {x y : Str} {v u : Value} {qual : Str} {func : Option Addr} {code : Value} {builtins : Addr} {Q : Env → Shared → Prop}
    (hk : scope.kind = .function) (hx : scope.names.lookup x = some .cell) (hy : scope.names.lookup y = some .local) (hcf : cellsFrom (s.heap.objs.size + 1) scope.names [] = [(x, s.heap.objs.size + 1)])
    (hpc : ∀ h : Heap, pushCells h scope.names = h.push { cls := .type "cell", data := .cell none })
    (h : ∀ s', s'.heap.Ns s.heap.objs.size (fun z => if z = y then some u else none) → s'.heap.get? (s.heap.objs.size + 1) = some (cellOb v) → (∀ b o, s.heap.get? b = some o → s'.heap.get? b = some o) → s'.gens = s.gens → s'.os = s.os →
      Q (newEnv scope s.heap.objs.size globals [(x, s.heap.objs.size + 1)] qual func code none builtins) s') :
    wpAny M A (newFunctionEnv scope globals [] [(x, v), (y, u)] qual func code none builtins) Q E s := by
  simp only [newFunctionEnv, Option.isSome_none, Bool.false_eq_true, if_false]
  refine wpAny_bind (wpAny_alloc ?_)
  refine wpAny_bind (wpAny_layCells _ (fun name kind cells => by cases kind == NameKind.cell <;> simp) _ _ _ _ ?_)
  rw [show ({ s with heap := s.heap.push { cls := .type "frame", data := .dict #[] } } : Shared).heap.objs.size = s.heap.objs.size + 1 from Heap.size_push ..]
  rw [hcf, hpc, List.forIn_cons]
  have e1 : ((s.heap.push { cls := .type "frame", data := .dict #[] }).push { cls := .type "cell", data := .cell none }).get? (s.heap.objs.size + 1) = some { cls := .type "cell", data := .cell none } := by
    have := Heap.get?_push_size (s.heap.push { cls := .type "frame", data := .dict #[] }) (o := { cls := .type "cell", data := .cell none }) rfl
    rwa [Heap.size_push] at this
  have n1 : ((s.heap.push { cls := .type "frame", data := .dict #[] }).push { cls := .type "cell", data := .cell none }).Ns s.heap.objs.size fun _ => none := (Heap.Ns.new s.heap (.type "frame")).push _
  have k1 : ∀ b o, s.heap.get? b = some o → ((s.heap.push { cls := .type "frame", data := .dict #[] }).push { cls := .type "cell", data := .cell none }).get? b = some o := fun b o e => Heap.get?_push_of_some _ (Heap.get?_push_of_some _ e)
  generalize (s.heap.push { cls := .type "frame", data := .dict #[] }).push { cls := .type "cell", data := .cell none } = H at e1 n1 k1 ⊢
  refine wpAny_bind (wpAny_bind (wpAny_bind (store_cell hk hx (by rw [List.lookup_cons, beq_self_eq_true]) e1 fun h2 e2 s2 => ?_)))
  refine wpAny_pure ?_
  dsimp only
  rw [List.forIn_cons]
  refine wpAny_bind (wpAny_bind (wpAny_storeName_local hy (n1.sameBut s2 (Nat.ne_of_lt (Nat.lt_succ_self _))) (fun h3 n3 s3 => ?_) (by rw [hk]; rfl)))
  refine wpAny_pure ?_
  dsimp only
  rw [List.forIn_nil]
  refine wpAny_pure ?_
  refine wpAny_pure (h _ n3 ((s3.2 _ (Nat.ne_of_gt (Nat.lt_succ_self _))).trans e2) (fun b o e => ?_) rfl rfl)
  have := Heap.lt_size e
  exact (s3.2 b (Nat.ne_of_lt this)).trans ((s2.2 b (Nat.ne_of_lt (Nat.lt_succ_of_lt this))).trans (k1 b o e))
end
noncomputable abbrev DueInv (w : World) (s₀ : Shared) (C da c it : Addr) (sv : Value) (l : List (Nat × Nat)) (T : List (Addr × Obj)) (n : Nat) (k : Nat) (h : Heap) (g : Array GenState) (o : OsState) : Prop := (∃ m vs n', In w s₀ C m [(it, rgIt (-1 + k) ((n : Int) + 3 - k)), (da, listOf vs n'), (c, cellOb sv)] h g o ∧ vs.size = k ∧ ListOk T l vs) ∧ (k ≤ n + 3)
section
variable {w : World} {A : Around} {M : Model} {E : Value → Shared → Prop} {s : Shared} {env : Env}
-- a comprehension over one list or range, its own frame made
theorem ListComp_F {elt target iter : Expr} {ifs : List Expr} {rest : List Comprehension} {scope : Scope} {pos : Pos} {cl : List (Str × Addr)} {Q : Value → Shared → Prop}
    (hclos : closureFor scope env = pure cl) (hkind : scope.kind = .function) (hnames : ∀ x ∈ scope.names, x.2 = .local → scope.names.lookup x.1 = some .local) (hcell : ∀ x ∈ scope.names, x.2 ≠ .cell)
    (hs : ∀ x, foldedSetIterable iter env x = pure x)
    (h : wpAny M A (eval iter env) (fun x s₁ => wpAny M A (pyIter x) (fun it s₂ => wpAny M A (newList []) (fun acc s₃ =>
      ∀ s₄, s₄.heap.Ns s₃.heap.objs.size (fun _ => none) → Heap.SameBut s₃.heap.objs.size (s₃.heap.push { cls := .type "dict", data := .dict #[] }) s₄.heap → s₄.gens = s₃.gens → s₄.os = s₃.os →
        codeAny M A (.compStart (.ListComp elt (⟨target, iter, ifs, 0⟩ :: rest) scope pos) 0 it acc (compEnvC scope cl s₃.heap.objs.size env)) (compPost M A E none Q acc s₃.heap.objs.size) s₄) E s₂) E s₁) E s) :
    wpAny M A (eval (.ListComp elt (⟨target, iter, ifs, 0⟩ :: rest) scope pos) env) Q E s := by
  rw [eval_ListComp]
  refine wpAny_comprehension_free (use := none) rfl hs hclos hkind hnames (wpAny_mono h (fun x s₁ h₁ => wpAny_mono h₁ (fun it s₂ h₂ => wpAny_mono h₂ (fun acc s₃ h₃ => ?_) fun _ _ e => e) fun _ _ e => e) fun _ _ e => e)
  refine wpAny_newFunctionEnv hcell (fun _ hp => nomatch hp) (fun h' hn hsb => ?_) hkind
  exact h₃ { s₃ with heap := h', toks := s₃.toks + 0 } hn hsb rfl rfl
end
section
set_option maxHeartbeats 4000000 in
theorem due_code {A : Around} {n : Nat} (fit : Fit (n + 2) A) (w : World) (s : Shared) (t : Str) (tt : Tok) (T : List (Addr × Obj)) (l : List (Nat × Nat)) (sv : Array Value) (c : Nat) (sa : Addr) (ok : Ok w s.heap) (hn : t.length ≤ 1048576)
    (hsa : s.heap.get? sa = some (listOf sv c)) (hT : ∀ p ∈ T, s.heap.get? p.1 = some p.2 ∧ hasCls p.2 = true) (hS : SpansOk T l sv) :
    codeAny (model PW w) A (.call (.ref 218) ⟨[.ref sa, .str t tt], []⟩) (fun r s' => ∃ v, r = .ok (.ret v) ∧ RowPost w s l (t.length + 3) v s') s := by
  refine codeAny_call_function (fd := fnOf "_law_due" "_law_due" (parsOf 15) (bodyOf 15) (scopeOf 15) .none .none .none (.str "law_il0124_01" 422) none (.ref 217) .none) (body := bodyOf 15)
    fit.room (ok.k _ _ (by kernel_rfl : (K w.params).lookup 218 = some { cls := .type "function", data := .func (fnOf "_law_due" "_law_due" (parsOf 15) (bodyOf 15) (scopeOf 15) .none .none .none (.str "law_il0124_01" 422) none (.ref 217) .none) })) rfl rfl rfl rfl
    (codeRec_of ok.k (by kernel_rfl)) ?_
  refine wpAny_of_eq (show bindArgs (fnOf "_law_due" "_law_due" (parsOf 15) (bodyOf 15) (scopeOf 15) .none .none .none (.str "law_il0124_01" 422) none (.ref 217) .none) ⟨[.ref sa, .str t tt], []⟩ = pure ([("spans", Value.ref sa), ("text", Value.str t tt)] : List (Str × Value)) from rfl) ?_
  refine newEnv_cell (scope := scopeOf 15) (x := "spans") (y := "text") rfl rfl rfl rfl (fun _ => rfl) fun s1 n1 e1 k1 g1 o1 => ⟨(ok.keeps k1).nolimit, codeAny_func ?_⟩
  have I1 : In w s s.heap.objs.size _ [(s.heap.objs.size + 1, cellOb (.ref sa))] s1.heap s1.gens s1.os := ⟨n1, by
    cases q : s.heap.get? s.heap.objs.size with
    | none => rfl
    | some o => exact absurd (Heap.lt_size q) (Nat.lt_irrefl _), ok, .of_keep k1, fun b o e => ⟨o, k1 b o e⟩, g1, o1, ok.keeps k1, fun p hp => by
      rcases List.mem_cons.mp hp with rfl | hp
      · exact ⟨e1, Nat.ne_of_gt (Nat.lt_succ_self _), rfl⟩
      · cases hp⟩
  generalize hA : A.deeper _ = A'
  have fA : Fit (n + 1) A' := hA ▸ fit.deeper
  generalize hB : bodyOf 15 = B
  conv at hB => lhs; whnf
  subst hB
  (repeat' (first | ((with_reducible show wpAny _ _ (eval (Expr.Name _ _) _) _ _ _); first | with_reducible (first | refine ldE (by assumption) (by ((repeat (first | assumption | exact upd_same | refine Eq.trans (upd_ne (by decide)) ?_)); all_goals rfl)) ?_ | refine glE (by assumption) (g_law_last _) ?_ | refine biE (by assumption) (gn_len _) gb_len ?_ | refine biE (by assumption) (gn_range _) gb_range ?_ | refine clE (by assumption) (by rfl) (by assumption) ?_) | (first | refine ldE (by assumption) (by ((repeat (first | assumption | exact upd_same | refine Eq.trans (upd_ne (by decide)) ?_)); all_goals rfl)) ?_ | refine glE (by assumption) (g_law_last _) ?_ | refine biE (by assumption) (gn_len _) gb_len ?_ | refine biE (by assumption) (gn_range _) gb_range ?_ | refine clE (by assumption) (by rfl) (by assumption) ?_)) | ((with_reducible show wpAny _ _ (eval (Expr.ListComp _ _ _ _) _) _ _ _); first | with_reducible (refine ListComp_F (cl := [(("spans" : Str), s.heap.objs.size + 1)]) (by rfl) (by rfl) (by decide) (by decide) (fun _ => rfl) ?_) | (refine ListComp_F (cl := [(("spans" : Str), s.heap.objs.size + 1)]) (by rfl) (by rfl) (by decide) (by decide) (fun _ => rfl) ?_)) | ((with_reducible show wpAny _ _ (storeName _ _ _) _ _ _); first | with_reducible ((refine stE (by assumption) ?_; intro _ _)) | ((refine stE (by assumption) ?_; intro _ _))) | ((with_reducible show wpAny _ _ (newList _) _ _ _); first | with_reducible ((refine newList_In (by assumption) ?_; intro _ _ _ _)) | ((refine newList_In (by assumption) ?_; intro _ _ _ _))) | ((with_reducible show wpAny _ _ _ _ _ _); walk1) | ((with_reducible show ite _ _ _); walk1)))
  refine range_In I1 (by omega) (by omega) (by omega) fun s2 it I2 fit2 => ?_
  (repeat' (first | ((with_reducible show wpAny _ _ (eval (Expr.Name _ _) _) _ _ _); first | with_reducible (first | refine ldE (by assumption) (by ((repeat (first | assumption | exact upd_same | refine Eq.trans (upd_ne (by decide)) ?_)); all_goals rfl)) ?_ | refine glE (by assumption) (g_law_last _) ?_ | refine biE (by assumption) (gn_len _) gb_len ?_ | refine biE (by assumption) (gn_range _) gb_range ?_ | refine clE (by assumption) (by rfl) (by assumption) ?_) | (first | refine ldE (by assumption) (by ((repeat (first | assumption | exact upd_same | refine Eq.trans (upd_ne (by decide)) ?_)); all_goals rfl)) ?_ | refine glE (by assumption) (g_law_last _) ?_ | refine biE (by assumption) (gn_len _) gb_len ?_ | refine biE (by assumption) (gn_range _) gb_range ?_ | refine clE (by assumption) (by rfl) (by assumption) ?_)) | ((with_reducible show wpAny _ _ (eval (Expr.ListComp _ _ _ _) _) _ _ _); first | with_reducible (refine ListComp_F (cl := [(("spans" : Str), s.heap.objs.size + 1)]) (by rfl) (by rfl) (by decide) (by decide) (fun _ => rfl) ?_) | (refine ListComp_F (cl := [(("spans" : Str), s.heap.objs.size + 1)]) (by rfl) (by rfl) (by decide) (by decide) (fun _ => rfl) ?_)) | ((with_reducible show wpAny _ _ (storeName _ _ _) _ _ _); first | with_reducible ((refine stE (by assumption) ?_; intro _ _)) | ((refine stE (by assumption) ?_; intro _ _))) | ((with_reducible show wpAny _ _ (newList _) _ _ _); first | with_reducible ((refine newList_In (by assumption) ?_; intro _ _ _ _)) | ((refine newList_In (by assumption) ?_; intro _ _ _ _))) | ((with_reducible show wpAny _ _ _ _ _ _); walk1) | ((with_reducible show ite _ _ _); walk1)))
  rename_i s3 I3 frd k3
  intro s4 n4 hs4 g4 o4
  have I4 := I3.reframe n4 hs4
  rw [← g4, ← o4] at I4
  generalize hda : s2.heap.objs.size = da at *
  have fda : s.heap.get? da = none := frd
  generalize hC : s3.heap.objs.size = C at *
  refine (fun loop => codeAny_compStart_list loop (iterIter_In I4 (.tail _ (.head _)) loop)) ?_
  refine codeAny_compLoop_list (I := fun k s' => ∃ i, k = t.length + 3 - i ∧ DueInv w s C da (s.heap.objs.size + 1) it (.ref sa) l T t.length i s'.heap s'.gens s'.os) ?turn (t.length + 3) ?init (fun _ => rfl)
  case init =>
    refine ⟨0, rfl, ⟨_, #[], 0, I4.mono fun p hp => ?_, rfl, (fun k v e => nomatch e)⟩, by omega⟩
    rcases List.mem_cons.mp hp with rfl | hp
    · have : rgIt (-1 + ((0 : Nat) : Int)) ((t.length : Int) + 3 - ((0 : Nat) : Int)) = rgIt (-1) ((t.length : Int) + 2 - -1) := by
        rw [show (-1 + ((0 : Nat) : Int)) = -1 by omega, show ((t.length : Int) + 3 - ((0 : Nat) : Int)) = (t.length : Int) + 2 - -1 by omega]
      rw [this]; exact .tail _ (.head _)
    · rcases List.mem_cons.mp hp with rfl | hp
      · exact .head _
      · exact .tail _ (.tail _ hp)
  case turn =>
    clear I4 I3 I2 I1
    rintro k s5 ⟨i, rfl, ⟨m, vs, n', I, hvs, hL⟩, hle⟩
    have dis : ∀ p ∈ [(da, listOf vs n'), (s.heap.objs.size + 1, cellOb (.ref sa))], p.2.cls ≠ .type "range_iterator" := fun p hp => by
      rcases List.mem_cons.mp hp with rfl | hp
      · exact (show Value.type "list" ≠ .type "range_iterator" by decide)
      · rcases List.mem_cons.mp hp with rfl | hp
        · exact (show Value.type "cell" ≠ .type "range_iterator" by decide)
        · cases hp
    by_cases hlt : i < t.length + 3
    · refine next_In I fit2 dis (by omega) fun s6 tk I6 => ?_
      dsimp only
      clear I
      have hcell : (s.heap.objs.size + 1, cellOb (.ref sa)) ∈ [(it, rgIt (-1 + (i : Int) + 1) ((t.length : Int) + 3 - i - 1)), (da, listOf vs n'), (s.heap.objs.size + 1, cellOb (.ref sa))] := .tail _ (.tail _ (.head _))
      (repeat' (first | ((with_reducible show wpAny _ _ (eval (Expr.Name _ _) _) _ _ _); first | with_reducible (first | refine ldE (by assumption) (by ((repeat (first | assumption | exact upd_same | refine Eq.trans (upd_ne (by decide)) ?_)); all_goals rfl)) ?_ | refine glE (by assumption) (g_law_last _) ?_ | refine biE (by assumption) (gn_len _) gb_len ?_ | refine biE (by assumption) (gn_range _) gb_range ?_ | refine clE (by assumption) (by rfl) (by assumption) ?_) | (first | refine ldE (by assumption) (by ((repeat (first | assumption | exact upd_same | refine Eq.trans (upd_ne (by decide)) ?_)); all_goals rfl)) ?_ | refine glE (by assumption) (g_law_last _) ?_ | refine biE (by assumption) (gn_len _) gb_len ?_ | refine biE (by assumption) (gn_range _) gb_range ?_ | refine clE (by assumption) (by rfl) (by assumption) ?_)) | ((with_reducible show wpAny _ _ (eval (Expr.ListComp _ _ _ _) _) _ _ _); first | with_reducible (refine ListComp_F (cl := [(("spans" : Str), s.heap.objs.size + 1)]) (by rfl) (by rfl) (by decide) (by decide) (fun _ => rfl) ?_) | (refine ListComp_F (cl := [(("spans" : Str), s.heap.objs.size + 1)]) (by rfl) (by rfl) (by decide) (by decide) (fun _ => rfl) ?_)) | ((with_reducible show wpAny _ _ (storeName _ _ _) _ _ _); first | with_reducible ((refine stE (by assumption) ?_; intro _ _)) | ((refine stE (by assumption) ?_; intro _ _))) | ((with_reducible show wpAny _ _ (newList _) _ _ _); first | with_reducible ((refine newList_In (by assumption) ?_; intro _ _ _ _)) | ((refine newList_In (by assumption) ?_; intro _ _ _ _))) | ((with_reducible show wpAny _ _ _ _ _ _); walk1) | ((with_reducible show ite _ _ _); walk1)))
      rename_i s7 I7'
      have I7 : In w s C _ _ s7.heap s7.gens s7.os := I7'
      clear I7'
      refine callWith_K I7.ok.k (by kernel_rfl) ?_
      (repeat' (first | ((with_reducible show wpAny _ _ (eval (Expr.Name _ _) _) _ _ _); first | with_reducible (first | refine ldE (by assumption) (by ((repeat (first | assumption | exact upd_same | refine Eq.trans (upd_ne (by decide)) ?_)); all_goals rfl)) ?_ | refine glE (by assumption) (g_law_last _) ?_ | refine biE (by assumption) (gn_len _) gb_len ?_ | refine biE (by assumption) (gn_range _) gb_range ?_ | refine clE (by assumption) (by rfl) (by assumption) ?_) | (first | refine ldE (by assumption) (by ((repeat (first | assumption | exact upd_same | refine Eq.trans (upd_ne (by decide)) ?_)); all_goals rfl)) ?_ | refine glE (by assumption) (g_law_last _) ?_ | refine biE (by assumption) (gn_len _) gb_len ?_ | refine biE (by assumption) (gn_range _) gb_range ?_ | refine clE (by assumption) (by rfl) (by assumption) ?_)) | ((with_reducible show wpAny _ _ (eval (Expr.ListComp _ _ _ _) _) _ _ _); first | with_reducible (refine ListComp_F (cl := [(("spans" : Str), s.heap.objs.size + 1)]) (by rfl) (by rfl) (by decide) (by decide) (fun _ => rfl) ?_) | (refine ListComp_F (cl := [(("spans" : Str), s.heap.objs.size + 1)]) (by rfl) (by rfl) (by decide) (by decide) (fun _ => rfl) ?_)) | ((with_reducible show wpAny _ _ (storeName _ _ _) _ _ _); first | with_reducible ((refine stE (by assumption) ?_; intro _ _)) | ((refine stE (by assumption) ?_; intro _ _))) | ((with_reducible show wpAny _ _ (newList _) _ _ _); first | with_reducible ((refine newList_In (by assumption) ?_; intro _ _ _ _)) | ((refine newList_In (by assumption) ?_; intro _ _ _ _))) | ((with_reducible show wpAny _ _ _ _ _ _); walk1) | ((with_reducible show ite _ _ _); walk1)))
      have I7o := I7.old (objs := (sa, listOf sv c) :: T) fun p hp => by
        rcases List.mem_cons.mp hp with rfl | hp
        · exact ⟨hsa, rfl⟩
        · exact hT p hp
      refine ⟨I7.ok.k, wpAny_mono (last_call (n := n) fA w _ T l sv c sa _ _ I7.ok (I7o.has _ (.head _)).1 (fun p hp => ⟨(I7o.has p (List.mem_append_left _ (.tail _ hp))).1, (hT p hp).2⟩) hS _) (fun v s8 hs => ?_) (fun _ _ x => x)⟩
      obtain ⟨st8, ok8, hv⟩ := hs
      have I8 := I7.call st8 ok8
      clear I7 I7o
      refine append_In (n := n') (N := [(it, rgIt (-1 + (i : Int) + 1) ((t.length : Int) + 3 - i - 1)), (s.heap.objs.size + 1, cellOb (.ref sa))]) (I8.mono fun p hp => ?_) fda (fun p hp => ?_) (fun s9 I9 => ?_) (by rw [hvs, sizeLine_eq]; omega)
      · rcases List.mem_cons.mp hp with rfl | hp
        · exact .tail _ (.head _)
        · rcases List.mem_cons.mp hp with rfl | hp
          · exact .head _
          · exact .tail _ (.tail _ hp)
      · rcases List.mem_cons.mp hp with rfl | hp
        · exact (show Value.type "range_iterator" ≠ .type "list" by decide)
        · rcases List.mem_cons.mp hp with rfl | hp
          · exact (show Value.type "cell" ≠ .type "list" by decide)
          · cases hp
      refine ⟨t.length + 3 - (i + 1), by omega, i + 1, rfl, ⟨_, vs.push v, n' + 1, I9.mono fun p hp => ?_, by rw [Array.size_push, hvs], hL.push (fun _ h => h) ?_⟩, by omega⟩
      · rcases List.mem_cons.mp hp with rfl | hp
        · have : rgIt (-1 + ((i + 1 : Nat) : Int)) ((t.length : Int) + 3 - ((i + 1 : Nat) : Int)) = rgIt (-1 + (i : Int) + 1) ((t.length : Int) + 3 - i - 1) := by
            rw [show (-1 + ((i + 1 : Nat) : Int)) = -1 + (i : Int) + 1 by omega, show ((t.length : Int) + 3 - ((i + 1 : Nat) : Int)) = (t.length : Int) + 3 - i - 1 by omega]
          rw [this]; exact .tail _ (.head _)
        · rcases List.mem_cons.mp hp with rfl | hp
          · exact .head _
          · exact .tail _ (.tail _ hp)
      · rw [hvs, show ((i : Int) - 1) = -1 + (i : Int) by omega]; exact hv
    · refine nextEnd_In I fit2 dis fA.hd (by omega) fun s6 I6 => ?_
      dsimp only
      refine ⟨m, I6.ns, fun h' hs' => ⟨_, rfl, da, vs, n', T, rfl, ?_⟩⟩
      have I7 := I6.old (objs := T) hT
      obtain ⟨st, ok', hN⟩ := I7.drop (d := s6.drawn) (t := s6.toks) hs'
      exact ⟨st, ok', fda, hN (da, listOf vs n') (List.mem_append_right _ (.head _)), by omega, hL, fun p hp => ⟨hN p (List.mem_append_left _ hp), (hT p hp).2⟩⟩
theorem due_call {A : Around} {n : Nat} (fit : Fit (n + 2) A) (w : World) (s : Shared) (t : Str) (tt : Tok) (T : List (Addr × Obj)) (l : List (Nat × Nat)) (sv : Array Value) (c : Nat) (sa : Addr) (ok : Ok w s.heap) (hn : t.length ≤ 1048576)
    (hsa : s.heap.get? sa = some (listOf sv c)) (hT : ∀ p ∈ T, s.heap.get? p.1 = some p.2 ∧ hasCls p.2 = true) (hS : SpansOk T l sv) (E : Value → Shared → Prop) :
    wpAny (model PW w) A (call (.ref 218) [.ref sa, .str t tt]) (RowPost w s l (t.length + 3)) E s :=
  wpAny_call (codeAny_mono (due_code fit w s t tt T l sv c sa ok hn hsa hT hS) fun r s' h => by obtain ⟨v, rfl, h⟩ := h; exact h)
end
end Mine

end
section
open PySem PySem.W PySem.W.X PyProof.Rows PySem.Calls
set_option maxRecDepth 100000
namespace Mine
section
variable {M : Model} {A : Around} {E : Value → Shared → Prop} {s : Shared}
-- under the claim's caller no refusal is marked
theorem mark_skip {own : List String} {e : Value} {Q : Unit → Shared → Prop} (h : Q () s) : wpC M A (markTheRefusal own e) Q E s := fun Γ p i k => by
  have no : pythonCodeMadeTheCall own (((Γ.code, p) :: Γ.below).map (·.1)) = false := by
    have : ((((Γ.code, p) :: Γ.below).map (·.1)).any fun c => match c with | .builtin "claim.caller" _ => true | _ => false) = true := by
      rw [List.any_map, List.any_cons]; exact k
    exact (congrFun (congrArg and (congrFun (congrArg and (congrArg not this)) _)) _).trans rfl
  show Sem.wp M Γ (if pythonCodeMadeTheCall own (((Γ.code, p) :: Γ.below).map (·.1)) = true then _ else _) _ _ p s
  rw [no, if_neg Bool.false_ne_true]
  exact h
theorem refuses {α : Type} {msg : String} {Q : α → Shared → Prop} (hh : A.handled = none) (hm : (Str.ofString msg).length ≤ sizeLine) (h : ∀ h' e t, Heap.MadeExc s.heap h' e "TypeError" [.str msg t] → E (.ref e) { s with heap := h', toks := s.toks + 1 }) : wpC M A (theBinderRefuses msg) Q E s := by
  unfold theBinderRefuses
  refine wpC_on (m := mkStr msg) (wpAny_mkStr ?_ hm)
  refine wpC_on (wpAny_newExc_plain plainExc_TypeError fun h' e m => ?_)
  exact wpC_bind (mark_skip (wpC_any (wpAny_raiseNew_none hh (h h' e _ m))))
end
section
variable {w : World} {A : Around} {s : Shared}
-- a def's call, under the claim's caller
theorem codeC_fn {R : Result → Shared → Prop} {a : Addr} {args : Args} {o : Obj} {fd : FuncData} {body : List Stmt} (hroom : A.depth < recursionLimit) (ho : s.heap.get? a = some o) (hd : o.data = .func fd) (hco : fd.scope.isCoroutine = false)
    (hgen : fd.scope.isGenerator = false) (hbody : fd.body = .stmts body) (hcd : s.heap.CodeRec fd.code fd.qualname)
    (h : wpC (model PW w) A.in1 (bindArgs fd args) (fun binds s₁ => wpC (model PW w) A.in1 (newFunctionEnv fd.scope fd.globals fd.closure binds (fd.qualname ++ ".<locals>.") (some a) fd.code none fd.builtins)
      (fun env s₂ => s₂.heap.NoLimit ∧ codeC (model PW w) A (.func body env) R s₂) (fun e s' => R (.error e) s') s₁) (fun e s' => R (.error e) s') s) : codeC (model PW w) A (.call (.ref a) args) R s := by
  refine codeC_tree ?_
  show wpC _ A.in1 (load a >>= _) _ _ s
  refine wpC_on (wpAny_load ho ?_)
  obtain ⟨c, oc, vs, tq, hc, hoc, hdc, hq⟩ := hcd
  rw [hd]
  dsimp only
  unfold callFunction
  rw [hc] at h ⊢
  refine wpC_on (m := field (.ref c) 1) (wpAny_field hoc hdc hq (wpC_on (wpAny_pure ?_)))
  rw [hco, hgen, hbody]
  exact wpC_bind (wpC_mono h (fun binds s₁ h₁ => wpC_bind (wpC_mono h₁ (fun env s₂ h₂ => wpC_any (wpAny_bind (wpAny_enterFrame h₂.1 hroom (wpAny_pure ⟨rfl, h₂.2⟩)))) fun _ _ y => y)) fun _ _ y => y)
set_option maxHeartbeats 4000000 in
theorem new_refuses {n : Nat} (fit : Fit n A) {c v : Value} {R : Result → Shared → Prop} (ok : Ok w s.heap) (h : ∀ h' e t msg, Heap.MadeExc s.heap h' e "TypeError" [.str msg t] → R (.error (.ref e)) { s with heap := h', toks := s.toks + 1 }) :
    codeC (model PW w) A (.call (.ref 89) ⟨[c, v], []⟩) R s := by
  refine codeC_fn (fd := fnOf "__new__" "Pair.__new__" (cpars 5 4) (cbody 5 4) (cscope 5 4) .none .none (.str "Create new instance of Pair(name, value)" 297) (.str "cpy313.importlib.metadata._collections" 210) none (.ref 88) .none)
    fit.room (ok.k _ _ (by kernel_rfl : (K w.params).lookup 89 = some { cls := .type "function", data := .func (fnOf "__new__" "Pair.__new__" (cpars 5 4) (cbody 5 4) (cscope 5 4) .none .none (.str "Create new instance of Pair(name, value)" 297) (.str "cpy313.importlib.metadata._collections" 210) none (.ref 88) .none) }))
    rfl rfl rfl rfl (codeRec_of ok.k (by kernel_rfl)) ?_
  show wpC _ _ (rule "call.bind.missing-positional" >>= fun _ => theBinderRefuses (α := PUnit) _ >>= _) _ _ s
  refine wpC_on (wpAny_rule ?_)
  exact wpC_bind (refuses fit.hd (Nat.le_of_ble_eq_true (by kernel_rfl)) fun h' e t m => h h' e t _ m)
theorem codeC_builtin {id : String} {args : Args} {b : Builtin} {R : Result → Shared → Prop} (hb : entryFor table id = some b)
    (h : wpC (model PW w) (A.under (.builtin id args)) (b args) (fun fin s' => match fin with | .done f => R (.ok f) s' | .again c' => c'.quiet = true ∧ codeC (model PW w) A c' R s') (fun e s' => R (.error e) s') s) : codeC (model PW w) A (.builtin id args) R s := by
  refine codeC_tree ?_
  show wpC _ _ (match entryFor table id with | some b => b args | none => unsupported ((withoutEnding? id "#data").getD id)) _ _ s
  rw [hb]; exact h
theorem codeC_call_builtin {id : String} {args : Args} {R : Result → Shared → Prop} (q : (Code.builtin id args).quiet = true) (hc : wpAny (model PW w) A.in1 (checkBuiltinCall id args) (fun _ s' => codeC (model PW w) A (.builtin id args) R s') (fun e s' => R (.error e) s') s) :
    codeC (model PW w) A (.call (.builtin id) args) R s := by
  refine codeC_tree ?_
  show wpC _ A.in1 (checkBuiltinCall id args >>= fun _ => again (.builtin id args)) _ _ s
  exact wpC_on (wpAny_mono hc (fun _ s' y => wpC_any (wpAny_pure ⟨q, y⟩)) fun _ _ y => y)
theorem made_new_none {M : Model} (ok : Ok w s.heap) (hp : M.prog = PW) (hw : M.w = w) : Looks M s.heap (Bind.madeBy (.ref 162)) none := by
  refine Looks.of_peek ok.k ?_
  rw [hp, hw]
  kernel_rfl
theorem depth_tc (A : Around) (rest : List Value) : (A.under (.builtin "type.__call__" ⟨.ref 162 :: rest, []⟩)).depth = A.depth + 1 := rfl
set_option maxHeartbeats 4000000 in
theorem cls_refuses {n : Nat} (fit : Fit (n + 1) A) {v : Value} {R : Result → Shared → Prop} (ok : Ok w s.heap) (h : ∀ h' e t msg d k, (∀ b o, s.heap.get? b = some o → h'.get? b = some o) → Heap.MadeExc s.heap h' e "TypeError" [.str msg t] → R (.error (.ref e)) { s with heap := h', toks := k, drawn := d }) :
    codeC (model PW w) A (.call (.ref 162) ⟨[v], []⟩) R s := by
  have hc : (clsIn (K w.params) 162).isSome = true := by kernel_rfl
  obtain ⟨cd, hc⟩ := Option.isSome_iff_exists.mp hc
  have hm : Looks (model PW w) s.heap (mroOf (.ref 162)) cd.mro := (looks_clsIn ok.k hc).andThen .now
  have he : cd.mro.isEmpty = false := by
    have : (clsIn (K w.params) 162).map (·.mro.isEmpty) = some false := by kernel_rfl
    rw [hc] at this; exact Option.some.inj this
  unfold clsIn at hc
  split at hc
  case h_2 => cases hc
  rename_i oc od cd' sl ho
  refine codeC_tree ?_
  show wpC _ A.in1 (load 162 >>= _) _ _ s
  refine wpC_on (wpAny_load (ok.k _ _ ho) ?_)
  dsimp only
  unfold callAny.viaDunder
  refine wpC_on ((looks_specialIn ok.k (by kernel_rfl : specialIn (K w.params) (.ref 162) "__call__" = some (some (.builtin "type.__call__")))).here ?_)
  dsimp only
  rw [tc_bind]
  refine wpC_on (wpAny_pure ?_)
  dsimp only
  refine wpC_on (wpAny_of_eq (show callAny.plainCallee (.builtin "type.__call__") = pure true from rfl) ?_)
  refine wpC_any (wpAny_pure ⟨rfl, ?_⟩)
  show codeC (model PW w) A (.call (.builtin "type.__call__") ⟨[.ref 162, v], []⟩) R s
  refine codeC_call_builtin (Code.quiet_builtin _ (by decide +kernel)) (@check_slot (model PW w) _ _ s "type.__call__" "type" "__call__" (.ref 162) [v] [] _ PySem.F.bk_type_call PySem.F.sp_type_call (looks_instIn ok.k (by kernel_rfl)) (tc_args _ _ _) ?_)
  refine codeC_builtin entry_typeCall ?_
  unfold Builtin.«type.__call__»
  dsimp only
  rw [if_neg (by decide)]
  refine wpC_on (hm.here ?_)
  rw [he, if_neg Bool.false_ne_true]
  refine wpC_on ((made_new_none (M := model PW w) ok rfl rfl).here ?_)
  dsimp only
  have gn : findCls (K w.params) (.ref 162) (.type "type") "__new__" = some (.get (.builtin "staticmethod.__get__") (.ref 140) .none (.ref 162)) := by kernel_rfl
  refine wpC_on (cls_bind ok.k (by kernel_rfl) gn (wpAny_call (sm_get (s := { s with toks := s.toks + 1 }) ok.k (by kernel_rfl : recIn (K w.params) 140 "staticmethod" = some [.ref 89]) (handed_on rfl ?_))))
  refine wpC_bind (wpC_holding (wpC_call ?_))
  refine new_refuses (n := 0) ?fit ok ?_
  case fit =>
    refine ⟨fit.hd, ?_, ?_⟩
    · rw [depth_tc]; have := fit.depth; omega
    · show A.units + 1 + 10 * 0 ≤ 5000
      have := fit.units; omega
  exact fun h' e t msg m => h h' e t msg _ _ m.keeps m
end
end Mine

end
section
open PySem PySem.W PySem.W.X PyProof.Rows PySem.Calls
set_option maxRecDepth 100000
namespace Mine
noncomputable abbrev pairOb (d : Addr) (a b : Str) (ta tb : Tok) : Obj := { cls := .ref 162, dict := some d, data := .seq #[.str a ta, .str b tb] 0 }
theorem tup_end {s : Shared} {h : Heap} {d : Drawn} {t : Nat} {p c : Addr} {a b : Str} {ta tb : Tok} {news : List (Addr × Obj)} (D : Mem s.heap h [] ((p, pairOb c a b ta tb) :: (c, { cls := .type "dict", data := .dict #[] }) :: news)) :
    ∃ q e, Value.ref p = .ref q ∧ (∀ b o, s.heap.get? b = some o → h.get? b = some o) ∧ (⟨h, s.gens, d, t, s.os⟩ : Shared).gens = s.gens ∧ (⟨h, s.gens, d, t, s.os⟩ : Shared).os = s.os ∧ s.heap.get? q = none ∧ s.heap.get? e = none ∧ h.get? q = some (pairOb e a b ta tb) ∧ h.get? e = some { cls := .type "dict", data := .dict #[] } :=
  ⟨_, _, rfl, keep_of_mem D, rfl, rfl, mem_fresh D 0 rfl, mem_fresh D 1 rfl, D.at 0 _ _ rfl, D.at 1 _ _ rfl⟩
theorem keep_end {s : Shared} {h : Heap} {d : Drawn} {t : Nat} {v : Value} {news : List (Addr × Obj)} (D : Mem s.heap h [] news) :
    v = v ∧ (∀ b o, s.heap.get? b = some o → h.get? b = some o) ∧ (⟨h, s.gens, d, t, s.os⟩ : Shared).gens = s.gens ∧ (⟨h, s.gens, d, t, s.os⟩ : Shared).os = s.os := ⟨rfl, keep_of_mem D, rfl, rfl⟩
section
local macro_rules | `(tactic| x_close) => `(tactic| first | exact tup_end (by assumption) | exact keep_end (by assumption) | exact same_end rfl rfl rfl)
set_option maxHeartbeats 0 in
theorem tup_new (w : World) (s : Shared) (t : Addr) (a b : Str) (ta tb : Tok) (E : Value → Shared → Prop) (ok : Ok w s.heap) (h1 : s.heap.get? t = some { cls := .type "tuple", data := .seq #[.str a ta, .str b tb] 0 }) : wpAny (model PW w) A0 (call (.builtin "tuple.__new__") [.ref 162, .ref t])
    (fun r s' => ∃ p d, r = .ref p ∧ (∀ b o, s.heap.get? b = some o → s'.heap.get? b = some o) ∧ s'.gens = s.gens ∧ s'.os = s.os ∧ s.heap.get? p = none ∧ s.heap.get? d = none ∧ s'.heap.get? p = some (pairOb d a b ta tb) ∧ s'.heap.get? d = some { cls := .type "dict", data := .dict #[] }) E s := by
  have KX := ok.k
  x_run
set_option maxHeartbeats 0 in
theorem pair_init (w : World) (s : Shared) (p d : Addr) (a b : Str) (ta tb : Tok) (E : Value → Shared → Prop) (ok : Ok w s.heap) (h1 : s.heap.get? p = some { cls := .ref (nat_lit 162), dict := some d, data := .seq #[.str a ta, .str b tb] 0 }) (h2 : s.heap.get? d = some { cls := .type "dict", data := .dict #[] }) :
    wpAny (model PW w) A0 (call (.builtin "object.__init__") [.ref p, .str a ta, .str b tb]) (fun r s' => r = .none ∧ (∀ b o, s.heap.get? b = some o → s'.heap.get? b = some o) ∧ s'.gens = s.gens ∧ s'.os = s.os) E s := by
  have KX := ok.k
  x_run
set_option maxHeartbeats 0 in
theorem type_pair (w : World) (s : Shared) (p d : Addr) (a b : Str) (ta tb : Tok) (E : Value → Shared → Prop) (ok : Ok w s.heap) (h1 : s.heap.get? p = some { cls := .ref (nat_lit 162), dict := some d, data := .seq #[.str a ta, .str b tb] 0 }) :
    wpAny (model PW w) A0 (call (.type "type") [.ref p]) (fun r s' => r = .ref 162 ∧ (∀ b o, s.heap.get? b = some o → s'.heap.get? b = some o) ∧ s'.gens = s.gens ∧ s'.os = s.os) E s := by
  have KX := ok.k
  x_run
set_option maxHeartbeats 0 in
theorem sub_pair (w : World) (s : Shared) (E : Value → Shared → Prop) (ok : Ok w s.heap) :
    wpAny (model PW w) A0 (call (.builtin "issubclass") [.ref 162, .type "tuple"]) (fun r s' => r = .bool true ∧ (∀ b o, s.heap.get? b = some o → s'.heap.get? b = some o) ∧ s'.gens = s.gens ∧ s'.os = s.os) E s := by
  have KX := ok.k
  x_run
end
theorem gn_type (P : Params) : nsIn (K P) 3 ("type" : Str) = some none := by kernel_rfl
theorem gb_type : bootBuiltins ("type" : Str) = some (.type "type") := by kernel_rfl
theorem gn_issubclass (P : Params) : nsIn (K P) 3 ("issubclass" : Str) = some none := by kernel_rfl
theorem gb_issubclass : bootBuiltins ("issubclass" : Str) = some (.builtin "issubclass") := by kernel_rfl
theorem gn_tuple (P : Params) : nsIn (K P) 3 ("tuple" : Str) = some none := by kernel_rfl
theorem gb_tuple : bootBuiltins ("tuple" : Str) = some (.type "tuple") := by kernel_rfl
section
variable {w : World} {A : Around} {E : Value → Shared → Prop} {s : Shared}
-- an attribute of a built-in type that is bare
theorem getA_type {T : String} {name : Str} {v : Value} {expr : Bool} {Q : Value → Shared → Prop} (ok : Ok w s.heap) (ht : typeOf (.type T) = pure (.type "type")) (hs : Manifest.isStub T = false)
    (e : findCls (K w.params) (.type T) (.type "type") name = some (.val v)) (hh : handedIn v = true) (h : Q v { s with toks := s.toks + 1 }) : wpAny (model PW w) A (getAttr (.type T) name expr) Q E s := by
  have stub : opaqueClassAbove (.type T) = pure none := by unfold opaqueClassAbove; dsimp only; rw [hs]; rfl
  refine cls_open ok.k (Looks.of_pure stub) (Looks.of_pure ht) (by kernel_rfl : findIn (K w.params) (.type "type") "__getattribute__" = some (some (.builtin "type.__getattribute__"))) (looks_hook ok.k (r := none) (by rfl)) (by rfl) e ?_
  exact wpAny_pure (handed_on hh h)
theorem getM_type {T : String} {name : Str} {v : Value} {pl : Sem Bool} {Q : Value × List Value → Shared → Prop} (ok : Ok w s.heap) (ht : typeOf (.type T) = pure (.type "type")) (hs : Manifest.isStub T = false)
    (e : findCls (K w.params) (.type T) (.type "type") name = some (.val v)) (hh : handedIn v = true) (h : Q (v, []) { s with toks := s.toks + 1 }) : wpAny (model PW w) A (getMethod (.type T) name pl) Q E s := by
  unfold getMethod specialOf
  refine wpAny_bind (wpAny_bind ((Looks.of_pure ht).here ((looks_findIn ok.k (by kernel_rfl : findIn (K w.params) (.type "type") "__getattribute__" = some (some (.builtin "type.__getattribute__")))).here ?_)))
  dsimp only
  rw [if_pos canon_tga]
  exact wpAny_bind (getA_type ok ht hs e hh (wpAny_pure h))
theorem type_of_tuple : typeOf (.type "tuple") = pure (.type "type") := by kernel_rfl
theorem type_of_str : typeOf (.type "str") = pure (.type "type") := by kernel_rfl
theorem looks_inst {M : Model} {h : Heap} {v c base : Value} {r : Bool} (x : Looks M h (typeOf v) c) (y : Looks M h (isSubtype c base) r) : Looks M h (isInstance v base) r := x.andThen y
set_option maxHeartbeats 4000000 in
theorem item_pair {p d : Addr} {a b : Str} {ta tb : Tok} {i : Nat} {t : Tok} {Q : Value → Shared → Prop} (ok : Ok w s.heap) (h1 : s.heap.get? p = some (pairOb d a b ta tb)) (hi : i < 2) (h : Q (if i = 0 then .str a ta else .str b tb) s) :
    wpAny (model PW w) A (call (.builtin "tuple.__getitem__") [.ref p, .int i t]) Q E s := by
  have ty : Looks (model PW w) s.heap (typeOf (.ref p)) (pairOb d a b ta tb).cls := (Looks.ld h1).andThen .now
  have sub : subIn (K w.params) (pairOb d a b ta tb).cls (.type "tuple") = some true := by kernel_rfl
  refine wpAny_call (codeAny_call_builtin slot_tuple_getitem.plain entry_tuple_getitem ?_)
  refine @check_slot (model PW w) _ _ s "tuple.__getitem__" "tuple" "__getitem__" (.ref p) [.int i t] [] _ (by decide +kernel) (by decide +kernel) (looks_inst ty (looks_subIn ok.k sub)) (args_tuple_getitem _ _) ?_
  show wpAny _ _ (Builtin.Tuple.tupleItemsOf (.ref p) >>= _) _ _ s
  refine wpAny_bind (PySem.wpAny_tupleItemsOf h1 rfl ?_)
  refine wpAny_bind (wpAny_typeOf (typeIs_int s i t) ?_)
  rw [if_neg (by decide)]
  refine wpAny_bind (wpAny_specialOf (T := "int") (typeIs_int s i t) int_index ?_)
  rw [if_neg (by simp)]
  refine wpAny_bind (wpAny_of_eq (a := (i : Int)) rfl ?_)
  rw [if_neg (by simp only [Bool.or_eq_true, decide_eq_true_eq]; omega)]
  have hj : seqIndex? (i : Int) (#[Value.str a ta, .str b tb].size) = some i := by
    rcases i with _ | _ | i
    · rfl
    · rfl
    · omega
  have hx : #[Value.str a ta, .str b tb][i]? = some (if i = 0 then .str a ta else .str b tb) := by
    rcases i with _ | _ | i
    · rfl
    · rfl
    · omega
  simp only [hj, Option.bind_some, hx]
  exact wpAny_pure h
end
end Mine

end
section
open PySem PySem.W PySem.W.X PyProof.Rows PySem.Calls
set_option maxRecDepth 100000
namespace Mine
section
theorem idx_value {w : World} {A : Around} {E : Value → Shared → Prop} {s : Shared} {g dg : Addr} {od : Obj} {i : Nat} {tk : Tok} {expr : Bool} {Q : Value → Shared → Prop} (ok : Ok w s.heap) (h1 : (K w.params).lookup g = some { cls := .ref 67, dict := some dg, data := .plain }) (h2 : (K w.params).lookup dg = some od)
    (h3 : findObj (K w.params) 67 (some od) "index" = some (.value (.int i tk))) (h : Q (.int i tk) { s with toks := s.toks + 1 }) : wpAny (model PW w) A (getAttr (.ref g) "index" expr) Q E s :=
  get_value (od := some od) ok.k ⟨ok.k _ _ h1, rfl, rfl, ok.k _ _ h2⟩ (by kernel_rfl : findIn (K w.params) (.ref 67) "__getattribute__" = some (some (.builtin "object.__getattribute__"))) h3 rfl h
set_option maxHeartbeats 4000000 in
theorem get_code {A : Around} {n : Nat} (fit : Fit (n + 1) A) (w : World) (s : Shared) (p d g dg : Addr) (a b : Str) (ta tb tk : Tok) (i : Nat) (od : Obj) (ok : Ok w s.heap) (h1 : s.heap.get? p = some (pairOb d a b ta tb)) (hi : i < 2)
    (hg1 : (K w.params).lookup g = some { cls := .ref 67, dict := some dg, data := .plain }) (hg2 : (K w.params).lookup dg = some od) (hg3 : findObj (K w.params) 67 (some od) "index" = some (.value (.int i tk))) :
    codeAny (model PW w) A (.call (.ref 50) ⟨[.ref g, .ref p, .ref 162], []⟩) (fun r s' => ∃ v, r = .ok (.ret v) ∧ v = (if i = 0 then .str a ta else .str b tb) ∧ (∀ b o, s.heap.get? b = some o → s'.heap.get? b = some o) ∧ s'.gens = s.gens ∧ s'.os = s.os) s := by
  refine' enter (name := "__get__") (qual := "_tuplegetter.__get__") (params := cpars 4 1) (body := _) (scope := _) (dV := .ref 43) (kV := .none) (doc := .none) (pm := .str "cpy313.importlib.metadata._collections" 210) (cdv := .ref 49) (ct := .none) (an := none) (od := none)
    (binds := [("self", .ref g), ("obj", .ref p), ("objtype", .ref 162)]) fit ok ?hl ?hcd ?hb ?hloc ?hcell ?h ?h1 ?h2 ?h3
  case hl => exact (by kernel_rfl : (K w.params).lookup 50 = some { cls := .type "function", data := .func (fnOf "__get__" "_tuplegetter.__get__" (cpars 4 1) (cbody 4 1) (cscope 4 1) (.ref 43) .none .none (.str "cpy313.importlib.metadata._collections" 210) none (.ref 49) .none) })
  case hcd => kernel_rfl
  case hloc => rfl
  case hcell => decide
  case h1 => rfl
  case h2 => rfl
  case h3 => rfl
  case hb => exact BindsTo.of_defaults rfl (ok.k _ _ (by kernel_rfl : (K w.params).lookup 43 = some { cls := .type "tuple", data := .seq #[.none] 0 })) rfl rfl rfl
  case h =>
    intro s1 I1 k1
    generalize hB : cbody 4 1 = B
    generalize hS : cscope 4 1 = S
    conv at hB => lhs; whnf
    conv at hS => lhs; whnf
    subst hB hS
    generalize hA : A.deeper _ = A'
    have fA : Fit n A' := hA ▸ fit.deeper
    have I2 := I1.old (objs := [(p, pairOb d a b ta tb)]) fun q hq => by
      rcases List.mem_cons.mp hq with rfl | hq
      · exact ⟨h1, rfl⟩
      · cases hq
    clear I1
    have hp : (p, pairOb d a b ta tb) ∈ [(p, pairOb d a b ta tb)] ++ [] := .head _
    (repeat' (first | ((with_reducible show wpAny _ _ (eval (Expr.Name _ _) _) _ _ _); first | with_reducible (first | refine ldv (by assumption) (by ((repeat (first | assumption | exact upd_same | refine Eq.trans (upd_ne (by decide)) ?_)); all_goals rfl)) ?_ | refine biv (by assumption) (gn_type _) gb_type ?_ | refine biv (by assumption) (gn_issubclass _) gb_issubclass ?_ | refine biv (by assumption) (gn_tuple _) gb_tuple ?_) | (first | refine ldv (by assumption) (by ((repeat (first | assumption | exact upd_same | refine Eq.trans (upd_ne (by decide)) ?_)); all_goals rfl)) ?_ | refine biv (by assumption) (gn_type _) gb_type ?_ | refine biv (by assumption) (gn_issubclass _) gb_issubclass ?_ | refine biv (by assumption) (gn_tuple _) gb_tuple ?_)) | ((with_reducible show wpAny _ _ (getMethod (Value.type "tuple") _ _) _ _ _); first | with_reducible ((refine getM_type (v := .builtin "tuple.__getitem__") (by assumption) type_of_tuple (by decide +kernel) (by kernel_rfl) rfl ?_)) | ((refine getM_type (v := .builtin "tuple.__getitem__") (by assumption) type_of_tuple (by decide +kernel) (by kernel_rfl) rfl ?_))) | ((with_reducible show wpAny _ _ (getAttr (Value.ref _) _ _) _ _ _); first | with_reducible ((refine idx_value (by assumption) (by assumption) (by assumption) (by assumption) ?_)) | ((refine idx_value (by assumption) (by assumption) (by assumption) (by assumption) ?_))) | ((with_reducible show wpAny _ _ _ _ _ _); walk1) | ((with_reducible show ite _ _ _); walk1)))
    refine wpAny_mono (lift0 fA (type_pair w _ p d a b ta tb _ I2.ok (I2.has _ hp).1)) (fun v s2 hv => ?_) (fun _ _ x => x)
    obtain ⟨rfl, kA, g', o'⟩ := hv
    have I3 := I2.keep kA g' o'
    clear I2
    (repeat' (first | ((with_reducible show wpAny _ _ (eval (Expr.Name _ _) _) _ _ _); first | with_reducible (first | refine ldv (by assumption) (by ((repeat (first | assumption | exact upd_same | refine Eq.trans (upd_ne (by decide)) ?_)); all_goals rfl)) ?_ | refine biv (by assumption) (gn_type _) gb_type ?_ | refine biv (by assumption) (gn_issubclass _) gb_issubclass ?_ | refine biv (by assumption) (gn_tuple _) gb_tuple ?_) | (first | refine ldv (by assumption) (by ((repeat (first | assumption | exact upd_same | refine Eq.trans (upd_ne (by decide)) ?_)); all_goals rfl)) ?_ | refine biv (by assumption) (gn_type _) gb_type ?_ | refine biv (by assumption) (gn_issubclass _) gb_issubclass ?_ | refine biv (by assumption) (gn_tuple _) gb_tuple ?_)) | ((with_reducible show wpAny _ _ (getMethod (Value.type "tuple") _ _) _ _ _); first | with_reducible ((refine getM_type (v := .builtin "tuple.__getitem__") (by assumption) type_of_tuple (by decide +kernel) (by kernel_rfl) rfl ?_)) | ((refine getM_type (v := .builtin "tuple.__getitem__") (by assumption) type_of_tuple (by decide +kernel) (by kernel_rfl) rfl ?_))) | ((with_reducible show wpAny _ _ (getAttr (Value.ref _) _ _) _ _ _); first | with_reducible ((refine idx_value (by assumption) (by assumption) (by assumption) (by assumption) ?_)) | ((refine idx_value (by assumption) (by assumption) (by assumption) (by assumption) ?_))) | ((with_reducible show wpAny _ _ _ _ _ _); walk1) | ((with_reducible show ite _ _ _); walk1)))
    refine wpAny_mono (lift0 fA (sub_pair w _ _ I3.ok)) (fun v s2 hv => ?_) (fun _ _ x => x)
    obtain ⟨rfl, kB, g', o'⟩ := hv
    have I4 := I3.keep kB g' o'
    clear I3
    have ok4 := I4.ok
    (repeat' (first | ((with_reducible show wpAny _ _ (eval (Expr.Name _ _) _) _ _ _); first | with_reducible (first | refine ldv (by assumption) (by ((repeat (first | assumption | exact upd_same | refine Eq.trans (upd_ne (by decide)) ?_)); all_goals rfl)) ?_ | refine biv (by assumption) (gn_type _) gb_type ?_ | refine biv (by assumption) (gn_issubclass _) gb_issubclass ?_ | refine biv (by assumption) (gn_tuple _) gb_tuple ?_) | (first | refine ldv (by assumption) (by ((repeat (first | assumption | exact upd_same | refine Eq.trans (upd_ne (by decide)) ?_)); all_goals rfl)) ?_ | refine biv (by assumption) (gn_type _) gb_type ?_ | refine biv (by assumption) (gn_issubclass _) gb_issubclass ?_ | refine biv (by assumption) (gn_tuple _) gb_tuple ?_)) | ((with_reducible show wpAny _ _ (getMethod (Value.type "tuple") _ _) _ _ _); first | with_reducible ((refine getM_type (v := .builtin "tuple.__getitem__") (by assumption) type_of_tuple (by decide +kernel) (by kernel_rfl) rfl ?_)) | ((refine getM_type (v := .builtin "tuple.__getitem__") (by assumption) type_of_tuple (by decide +kernel) (by kernel_rfl) rfl ?_))) | ((with_reducible show wpAny _ _ (getAttr (Value.ref _) _ _) _ _ _); first | with_reducible ((refine idx_value (by assumption) (by assumption) (by assumption) (by assumption) ?_)) | ((refine idx_value (by assumption) (by assumption) (by assumption) (by assumption) ?_))) | ((with_reducible show wpAny _ _ _ _ _ _); walk1) | ((with_reducible show ite _ _ _); walk1)))
    exact item_pair ok4 (I4.has _ hp).1 hi ⟨_, rfl, rfl, fun b o e => kB b o (kA b o (k1 b o e)), I4.gens, I4.os⟩
end
noncomputable abbrev noDict : Obj := { cls := .type "dict", data := .dict #[] }
section
variable {w : World} {A : Around} {E : Value → Shared → Prop} {s : Shared} {x C : Addr} {ox : Obj} {od : Option Obj} {name : Str} {expr : Bool} {KF : Frag}
-- an attribute of an instance of a tuple's subclass, by its descriptor
theorem get_tup {g a : Value} {Q : Value → Shared → Prop} (X : KF.In s.heap) (I : InstAt s.heap x ox C od) (hga : findIn KF (.ref C) "__getattribute__" = some (some (.builtin "tuple.__getattribute__"))) (hk : findIn KF (.ref C) "__getattr__" = some none)
    (hsub : subIn KF (.ref C) (.type "tuple") = some true) (hf : findObj KF C od name = some (.bind g a))
    (h : wpAny (model PW w) A.in1 (call g [a, .ref x, .ref C]) (fun v s' => wpAny (model PW w) A (handedOut v) Q E s') (fun _ _ => False) { s with toks := s.toks + 1 }) :
    wpAny (model PW w) A (getAttr (.ref x) name expr) Q E s := by
  obtain ⟨hh, gg, d, t, os⟩ := s
  have L0 := I.type (M := model PW w)
  have L1 := looks_findIn (M := model PW w) X hga
  have L2 := looks_find (M := model PW w) X I hf
  unfold getAttr getAttrBy
  refine wpAny_bind (wpAny_mkText (wpAny_holding (wpAny_bind (L0.at (wpAny_bind (L1.at ?_))))))
  dsimp only
  rw [show (Value.builtin "tuple.__getattribute__" == Value.builtin "object.__getattribute__") = false from by decide +kernel, Bool.and_false, if_neg Bool.false_ne_true]
  unfold getAttrByItsOwn
  refine wpAny_bind ((looks_hook (mc := .ref C) X (r := none) hk).at ?_)
  refine wpAny_bind (wpAny_attempt (wpAny_holding ?_))
  unfold callGetattribute
  rw [show (expr && onTheHeap (Value.builtin "tuple.__getattribute__")) = false from Bool.and_false _, if_neg Bool.false_ne_true]
  unfold boundAndCalled
  rw [PySem.F.slot_tuple_getattribute.bind]
  refine wpAny_bind (wpAny_pure ?_)
  show wpAny _ _ (call (.builtin "tuple.__getattribute__") [.ref x, .str name t]) _ _ _
  refine wpAny_call (codeAny_call_builtin PySem.F.slot_tuple_getattribute.plain am_entry_tuple_getattribute ?_)
  refine @check_slot (model PW w) _ _ ⟨hh, gg, d, t + 1, os⟩ "tuple.__getattribute__" "tuple" "__getattribute__" (.ref x) [.str name t] [] _ (by decide +kernel) (by decide +kernel) (looks_inst L0 (looks_subIn X hsub)) (PySem.F.args_tuple_getattribute_2 _ _) ?_
  unfold Builtin.«object.__getattribute__»
  refine wpAny_bind (wpAny_of_eq (a := (.ref x, [.str name t])) rfl ?_)
  dsimp only
  refine wpAny_bind (wpAny_of_eq (a := name) rfl ?_)
  refine wpAny_bind (L0.at (wpAny_bind (L2.at ?_)))
  show wpAny _ _ (holding [a] (call g [a, .ref x, .ref C]) >>= ret) _ _ _
  exact wpAny_bind (wpAny_holding (wpAny_mono h (fun v s' z => wpAny_pure z) fun _ _ z => z.elim))
end
section
variable {w : World} {A : Around} {E : Value → Shared → Prop} {s s₀ : Shared} {L : Addr} {m : LMap} {N : List (Addr × Obj)} {n : Nat} {p d : Addr} {a b : Str} {ta tb : Tok} {expr : Bool}
theorem attr_pair {g dg : Addr} {i : Nat} {od : Obj} {tk : Tok} {name : Str} {Q : Value → Shared → Prop} (fit : Fit (n + 1) A.in1) (I : In w s₀ L m N s.heap s.gens s.os) (hp : (p, pairOb d a b ta tb) ∈ N) (hd : (d, noDict) ∈ N) (hi : i < 2)
    (hg1 : (K w.params).lookup g = some { cls := .ref 67, dict := some dg, data := .plain }) (hg2 : (K w.params).lookup dg = some od) (hg3 : findObj (K w.params) 67 (some od) "index" = some (.value (.int i tk)))
    (hf : findObj (K w.params) 162 (some noDict) name = some (.bind (.ref 50) (.ref g))) (h : ∀ s', (∀ b o, s.heap.get? b = some o → s'.heap.get? b = some o) → s'.gens = s.gens → s'.os = s.os → Q (if i = 0 then .str a ta else .str b tb) s') : wpAny (model PW w) A (getAttr (.ref p) name expr) Q E s := by
  refine get_tup (od := some noDict) I.ok.k ⟨(I.has _ hp).1, rfl, rfl, (I.has _ hd).1⟩ (by kernel_rfl : findIn (K w.params) (.ref 162) "__getattribute__" = some (some (.builtin "tuple.__getattribute__"))) (by kernel_rfl : findIn (K w.params) (.ref 162) "__getattr__" = some none)
    (by kernel_rfl : subIn (K w.params) (.ref 162) (.type "tuple") = some true) hf ?_
  refine wpAny_call (codeAny_mono (get_code (s := { s with toks := s.toks + 1 }) fit w p d g dg a b ta tb tk i od I.ok (I.has _ hp).1 hi hg1 hg2 hg3) fun r s' hr => ?_)
  obtain ⟨v, rfl, rfl, kp, g', o'⟩ := hr
  refine handed_on ?_ (h s' kp g' o')
  split <;> rfl
theorem attr_name {Q : Value → Shared → Prop} (fit : Fit (n + 2) A) (I : In w s₀ L m N s.heap s.gens s.os) (hp : (p, pairOb d a b ta tb) ∈ N) (hd : (d, noDict) ∈ N)
    (h : ∀ s', (∀ b o, s.heap.get? b = some o → s'.heap.get? b = some o) → s'.gens = s.gens → s'.os = s.os → Q (.str a ta) s') : wpAny (model PW w) A (getAttr (.ref p) ("name" : Str) expr) Q E s :=
  attr_pair (g := 131) (dg := 130) (i := 0) (tk := 359) (n := n) (od := match (K w.params).lookup 130 with | some o => o | none => noDict) fit.in1 I hp hd (by decide) (by kernel_rfl) (by kernel_rfl) (by kernel_rfl) (by kernel_rfl) h
theorem attr_value {Q : Value → Shared → Prop} (fit : Fit (n + 2) A) (I : In w s₀ L m N s.heap s.gens s.os) (hp : (p, pairOb d a b ta tb) ∈ N) (hd : (d, noDict) ∈ N)
    (h : ∀ s', (∀ b o, s.heap.get? b = some o → s'.heap.get? b = some o) → s'.gens = s.gens → s'.os = s.os → Q (.str b tb) s') : wpAny (model PW w) A (getAttr (.ref p) ("value" : Str) expr) Q E s :=
  attr_pair (g := 134) (dg := 133) (i := 1) (tk := 369) (n := n) (od := match (K w.params).lookup 133 with | some o => o | none => noDict) fit.in1 I hp hd (by decide) (by kernel_rfl) (by kernel_rfl) (by kernel_rfl) (by kernel_rfl) h
end
end Mine

end
section
open PySem PySem.W PySem.W.X PyProof.Rows PySem.Calls
set_option maxRecDepth 100000
namespace Mine
section
variable {w : World} {s₀ : Shared} {L a : Addr} {m : LMap} {N : List (Addr × Obj)} {h h' : Heap} {g : Array GenState} {os : OsState} {o o' : Obj}
theorem In.turnA (I : In w s₀ L m ((a, o) :: N) h g os) (fa : s₀.heap.get? a = none) (hs : Heap.SameBut a h h') (e : h'.get? a = some o') (hc : hasCls o' = true) (nc : o.cls ≠ .type "code") (dis : ∀ p ∈ N, p.1 ≠ a) : In w s₀ L m ((a, o') :: N) h' g os := by
  have J := (I.mono (N' := [(a, o)]) fun p hp => by
    rcases List.mem_cons.mp hp with rfl | hp
    · exact .head _
    · cases hp).turn fa hs e hc nc fun _ hp => nomatch hp
  exact ⟨J.ns, J.fresh, J.ok₀, J.ext, J.there, J.gens, J.os, J.ok, fun p hp => by
    rcases List.mem_cons.mp hp with rfl | hp
    · exact J.has _ (.head _)
    · have := I.has p (.tail _ hp)
      exact ⟨(hs.2 _ (dis p hp)).trans this.1, this.2⟩⟩
end
theorem slot_mnext : Slot "map" "__next__" "map.__next__" :=
  .of (owner := "map") (n := "__next__") (by rw [typeLookup_type, builtinLookup_eq_fast]; kernel_rfl) (by decide +kernel) (by decide +kernel) (by decide +kernel)
    (by first | exact .inl (by decide +kernel) | exact .inr (by decide +kernel)) (by rw [isSubtype_type]; kernel_rfl)
theorem entry_mnext : entryFor table "map.__next__" = some Builtin.«map.__next__» := entryFor_of_fast (by kernel_rfl)
theorem args_mnext (a : Value) : argsOk "map.__next__" ⟨[a], []⟩ := by unfold argsOk; kernel_rfl
theorem map_nolen : typeLookup (.type "map") "__len__" = pure none := by rw [typeLookup_type, builtinLookup_eq_fast]; kernel_rfl
theorem map_nohint : typeLookup (.type "map") "__length_hint__" = pure none := by rw [typeLookup_type, builtinLookup_eq_fast]; kernel_rfl
theorem map_iter : typeLookup (.type "map") "__iter__" = pure (some (.builtin "map.__iter__")) := by rw [typeLookup_type, builtinLookup_eq_fast]; kernel_rfl
theorem slot_miter : Slot "map" "__iter__" "map.__iter__" :=
  .of (owner := "map") (n := "__iter__") (by rw [typeLookup_type, builtinLookup_eq_fast]; kernel_rfl) (by decide +kernel) (by decide +kernel) (by decide +kernel)
    (by first | exact .inl (by decide +kernel) | exact .inr (by decide +kernel)) (by rw [isSubtype_type]; kernel_rfl)
theorem entry_miter : entryFor table "map.__iter__" = some Builtin.«dict_keyiterator.__iter__» :=
  entryFor_alias (id' := "dict_keyiterator.__iter__") (by kernel_rfl) (by decide +kernel) (by decide +kernel) (by kernel_rfl)
theorem args_miter (a : Value) : argsOk "map.__iter__" ⟨[a], []⟩ := by unfold argsOk; kernel_rfl
noncomputable abbrev mapOb (tu : Addr) : Obj := { cls := .type "map", data := .fields #[.ref tu, .builtin "str.strip"] }
section
variable {w : World} {A : Around} {E : Value → Shared → Prop} {s s₀ : Shared} {L mo tu it ls : Addr} {m : LMap} {N : List (Addr × Obj)} {its : Array Value} {n i : Nat} {o : Obj}
theorem map_next {x : Str} {tx : Tok} {Q : Option Value → Shared → Prop} (I : In w s₀ L m ((it, o) :: N) s.heap s.gens s.os) (ho : LsIt ls i o) (fi : s₀.heap.get? it = none) (dis : ∀ p ∈ N, p.2.cls ≠ .type "list_iterator")
    (hmo : (mo, mapOb tu) ∈ N) (htu : (tu, tupObj #[.ref it]) ∈ N) (hls : (ls, listOf its n) ∈ N) (hx : its[i]? = some (.str x tx)) (hl : x.length ≤ sizeLine)
    (h : ∀ s' o' t', LsIt ls (i + 1) o' → In w s₀ L m ((it, o') :: N) s'.heap s'.gens s'.os → Heap.SameBut it s.heap s'.heap → Q (some (.str (Txt.strip x) t')) s') : wpAny (model PW w) A (pyNext (.ref mo)) Q E s := by
  have emo := (I.has _ (.tail _ hmo)).1
  have etu := (I.has _ (.tail _ htu)).1
  have hT : s.TypeIs (.ref mo) "map" := ⟨_, emo, rfl⟩
  unfold pyNext
  refine wpAny_bind (wpAny_attempt (wpAny_callSpecial?_slot (name := Str.ofString "__next__") hT slot_mnext (wpAny_call_entry slot_mnext hT entry_mnext ?_ (args_mnext _))))
  show wpAny _ _ (field (.ref mo) 0 >>= _) _ _ s
  refine wpAny_bind (wpAny_field emo rfl (x := .ref tu) rfl ?_)
  refine wpAny_bind (wpAny_seqItems etu rfl ?_)
  dsimp only
  rw [show (#[Value.ref it] : Array Value) = [Value.ref it].toArray from rfl, List.forIn_toArray, List.forIn_cons]
  refine wpAny_bind (wpAny_bind (wpAny_bind (wpAny_holding (wpAny_nextOf_list_item (items := its) (x := .str x tx) ⟨_, (I.has _ (.head _)).1, ho.1, ho.2⟩ ⟨_, (I.has _ (.tail _ hls)).1, rfl, n, rfl⟩ hx fun h' hit hs => ?_))))
  obtain ⟨o', e', c', d'⟩ := hit
  have y : LsIt ls (i + 1) o' := ⟨c', d'⟩
  have I' := I.turn fi hs e' y.cls (by rw [ho.1]; decide) (fun p hp => by rw [ho.1]; exact dis p hp)
  refine wpAny_pure ?_
  dsimp only
  rw [List.forIn_nil]
  refine wpAny_pure ?_
  refine wpAny_bind (wpAny_field (I'.has _ (.tail _ hmo)).1 rfl (x := .builtin "str.strip") rfl ?_)
  refine wpAny_bind (wpAny_holding ?_)
  show wpAny _ _ (call (.builtin "str.strip") [.str x tx]) _ _ _
  refine SCL.strip (fun t' k _ => ?_) hl
  show wpAny _ _ (letGo [.str x tx] [.str (Txt.strip x) t'] >>= fun _ => ret (.str (Txt.strip x) t')) _ _ _
  unfold letGo
  refine wpAny_bind (wpAny_bind (wpAny_holding (wpAny_point ?_)))
  unfold letGo
  exact wpAny_pure (wpAny_pure ⟨_, rfl, wpAny_pure (h { s with heap := h', toks := k } o' t' y I' hs)⟩)
theorem map_end {Q : Option Value → Shared → Prop} (I : In w s₀ L m ((it, o) :: N) s.heap s.gens s.os) (ho : LsIt ls i o) (fi : s₀.heap.get? it = none) (dis : ∀ p ∈ N, p.2.cls ≠ .type "list_iterator") (hh : A.handled = none)
    (hmo : (mo, mapOb tu) ∈ N) (htu : (tu, tupObj #[.ref it]) ∈ N) (hls : (ls, listOf its n) ∈ N) (hx : its[i]? = none)
    (h : ∀ s', In w s₀ L m N s'.heap s'.gens s'.os → Heap.ExtBut it s.heap s'.heap → Q none s') : wpAny (model PW w) A (pyNext (.ref mo)) Q E s := by
  have emo := (I.has _ (.tail _ hmo)).1
  have etu := (I.has _ (.tail _ htu)).1
  have hT : s.TypeIs (.ref mo) "map" := ⟨_, emo, rfl⟩
  unfold pyNext
  refine wpAny_bind (wpAny_attempt (wpAny_callSpecial?_slot (name := Str.ofString "__next__") hT slot_mnext (wpAny_call_entry slot_mnext hT entry_mnext ?_ (args_mnext _))))
  show wpAny _ _ (field (.ref mo) 0 >>= _) _ _ s
  refine wpAny_bind (wpAny_field emo rfl (x := .ref tu) rfl ?_)
  refine wpAny_bind (wpAny_seqItems etu rfl ?_)
  dsimp only
  rw [show (#[Value.ref it] : Array Value) = [Value.ref it].toArray from rfl, List.forIn_toArray, List.forIn_cons]
  refine wpAny_bind (wpAny_bind (wpAny_bind (wpAny_holding (wpAny_nextOf_list_end (items := its) hh ⟨_, (I.has _ (.head _)).1, ho.1, ho.2⟩ ⟨_, (I.has _ (.tail _ hls)).1, rfl, n, rfl⟩ hx fun h' e he se => ?_))))
  obtain ⟨oe, hoe, hce⟩ := se
  refine wpAny_bind (wpAny_isInstance (T := "StopIteration") (b := true) ⟨oe, hoe, hce⟩ (by rw [isSubtype_type]; kernel_rfl) ?_)
  rw [if_pos rfl]
  exact wpAny_pure (h { s with heap := h' } (I.lose fi he (by rw [ho.1]; decide) (fun p hp => by rw [ho.1]; exact dis p hp)) he)
end
section
variable {w : World} {A : Around} {s₀ : Shared} {L mo tu it ls S : Addr} {m : LMap} {N : List (Addr × Obj)} {its : Array Value} {n : Nat}
-- the strings of a list from place i on, each without the blanks at its ends
noncomputable def StripL (l : List (Str × Tok)) (vs : List Value) : Prop := Paired (fun x v => ∃ t', v = .str (Txt.strip x.1) t') l vs
theorem extend_map (hh : A.handled = none) (hmo : (mo, mapOb tu) ∈ N) (htu : (tu, tupObj #[.ref it]) ∈ N) (hls : (ls, listOf its n) ∈ N) (fi : s₀.heap.get? it = none) (fS : s₀.heap.get? S = none) (dis : ∀ p ∈ N, p.2.cls ≠ .type "list_iterator") (disS : ∀ p ∈ N, p.1 ≠ S) (hiS : it ≠ S) (res : Value) :
    ∀ (l : List (Str × Tok)) (i : Nat) (acc : Array Value) (c : Nat) (o : Obj) (s : Shared), In w s₀ L m ((it, o) :: (S, listOf acc c) :: N) s.heap s.gens s.os → LsIt ls i o → (∀ k : Nat, its[i + k]? = (l[k]?).map fun x => Value.str x.1 x.2) → (∀ x ∈ l, x.1.length ≤ sizeLine) → acc.size + l.length ≤ 1000 →
      codeAny (model PW w) A (.builtin "list.extend.loop" ⟨[.ref S, .ref mo, res], []⟩) (fun r s' => r = .ok (.ret res) ∧ ∃ vs c', In w s₀ L m ((S, listOf (acc ++ vs.toArray) c') :: N) s'.heap s'.gens s'.os ∧ StripL l vs ∧ ∀ b o, b ≠ it → b ≠ S → s.heap.get? b = some o → s'.heap.get? b = some o) s := by
  intro l
  induction l with
  | nil =>
    intro i acc c o s I ho hx hl hz
    refine codeAny_builtin PySem.F.entry_extend_loop ?_
    rw [Around.under_plainId PySem.F.plain_extend_loop _]
    show wpAny _ A.in1 (pyNext (.ref mo) >>= _) _ _ s
    refine wpAny_bind (map_end I ho fi ?_ hh (.tail _ hmo) (.tail _ htu) (.tail _ hls) (hx 0) fun s' I' he => ?_)
    · intro p hp
      rcases List.mem_cons.mp hp with rfl | hp
      · exact (show Value.type "list" ≠ .type "list_iterator" by decide)
      · exact dis p hp
    · exact wpAny_pure ⟨rfl, [], c, by rw [show acc ++ ([] : List Value).toArray = acc by simp]; exact I', .nil, fun b o h1 _ e => he b o h1 e⟩
  | cons x l ih =>
    intro i acc c o s I ho hx hl hz
    refine codeAny_builtin PySem.F.entry_extend_loop ?_
    rw [Around.under_plainId PySem.F.plain_extend_loop _]
    show wpAny _ A.in1 (pyNext (.ref mo) >>= _) _ _ s
    refine wpAny_bind (map_next I ho fi ?_ (.tail _ hmo) (.tail _ htu) (.tail _ hls) (hx 0) (hl x (.head _)) fun s' o' t' ho' I' hsb => ?_)
    · intro p hp
      rcases List.mem_cons.mp hp with rfl | hp
      · exact (show Value.type "list" ≠ .type "list_iterator" by decide)
      · exact dis p hp
    show wpAny _ A.in1 (updateSeq S (·.push _) >>= _) _ _ _
    have hS : s'.heap.get? S = some (listOf acc c) := (I'.has _ (.tail _ (.head _))).1
    refine wpAny_bind (wpAny_updateSeq hS rfl ?_ (by rw [sizeLine_eq]; simp only [List.length_cons] at hz; omega) (by rw [Array.size_push, sizeLine_eq]; simp only [List.length_cons] at hz; omega))
    have J := ((I'.mono (N' := (S, listOf acc c) :: (it, o') :: N) fun p hp => by
      rcases List.mem_cons.mp hp with rfl | hp
      · exact .tail _ (.head _)
      · rcases List.mem_cons.mp hp with rfl | hp
        · exact .head _
        · exact .tail _ (.tail _ hp)).turnA (o' := listOf (acc.push (.str (Txt.strip x.1) t')) (c + 1)) fS (Heap.SameBut.update ..) (by rw [Heap.get?_update_self (Obj.mapSeq (·.push (.str (Txt.strip x.1) t'))) hS (by rw [mapSeq_push]; rfl), mapSeq_push]) rfl (show Value.type "list" ≠ .type "code" by decide) fun p hp => by
      rcases List.mem_cons.mp hp with rfl | hp
      · exact hiS
      · exact disS p hp)
    refine wpAny_pure ⟨plainId_quiet PySem.F.plain_extend_loop _, codeAny_mono (ih (i + 1) (acc.push (.str (Txt.strip x.1) t')) (c + 1) o' { s' with heap := _ } (J.mono fun p hp => ?_) ho' (fun k => ?_) (fun y hy => hl y (.tail _ hy)) (by rw [Array.size_push]; simp only [List.length_cons] at hz; omega)) fun r s'' hr => ?_⟩
    · rcases List.mem_cons.mp hp with rfl | hp
      · exact .tail _ (.head _)
      · rcases List.mem_cons.mp hp with rfl | hp
        · exact .head _
        · exact .tail _ (.tail _ hp)
    · have := hx (k + 1)
      rw [show i + 1 + k = i + (k + 1) by omega, this]; rfl
    · obtain ⟨e, vs, c', K', P, kp⟩ := hr
      refine ⟨e, .str (Txt.strip x.1) t' :: vs, c', ?_, .cons ⟨t', rfl⟩ P, fun b y h1 h2 ey => kp b y h1 h2 ((Heap.get?_update_other _ _ (Ne.symm h2)).trans ((hsb.2 b h1).trans ey))⟩
      rw [show acc ++ (Value.str (Txt.strip x.1) t' :: vs).toArray = acc.push (.str (Txt.strip x.1) t') ++ vs.toArray by
        apply Array.ext'
        simp]
      exact K'
end
section
variable {w : World} {A : Around} {E : Value → Shared → Prop} {s s₀ : Shared} {L mo tu it ls : Addr} {m : LMap} {N : List (Addr × Obj)} {its : Array Value} {n : Nat} {o : Obj}
-- all that a map of str.strip over a list of strings gives
theorem collect_map {l : List (Str × Tok)} {Q : List Value → Shared → Prop} (hh : A.handled = none) (I : In w s₀ L m ((it, o) :: N) s.heap s.gens s.os) (ho : LsIt ls 0 o) (hmo : (mo, mapOb tu) ∈ N) (htu : (tu, tupObj #[.ref it]) ∈ N) (hls : (ls, listOf its n) ∈ N) (fi : s₀.heap.get? it = none)
    (dis : ∀ p ∈ N, p.2.cls ≠ .type "list_iterator") (hx : ∀ k : Nat, its[k]? = (l[k]?).map fun x => Value.str x.1 x.2) (hl : ∀ x ∈ l, x.1.length ≤ sizeLine) (hz : l.length ≤ 1000)
    (h : ∀ s' vs, In w s₀ L m N s'.heap s'.gens s'.os → StripL l vs → (∀ b o, b ≠ it → s.heap.get? b = some o → s'.heap.get? b = some o) → Q vs s') : wpAny (model PW w) A (collect (.ref mo)) Q E s := by
  unfold collect
  refine wpAny_bind (wpAny_runValue (codeAny_builtin PySem.F.entry_proto_collect ?_))
  rw [Around.under_plainId PySem.F.plain_proto_collect _]
  show wpAny _ A.in1 (newList [] >>= fun l => again (.builtin "list.__iadd__" ⟨[l, .ref mo], []⟩)) _ _ s
  refine wpAny_bind (newList_In I fun s1 I1 frS k1 => ?_)
  have hSz : ∀ p ∈ (it, o) :: N, p.1 ≠ s.heap.objs.size := fun p hp => Nat.ne_of_lt (Heap.lt_size (I.has p hp).1)
  have hSn : ∀ b x, s.heap.get? b = some x → b ≠ s.heap.objs.size := fun b x e => Nat.ne_of_lt (Heap.lt_size e)
  have hTm : ∀ (s' : Shared) (m' : LMap) (N' : List (Addr × Obj)), In w s₀ L m' N' s'.heap s'.gens s'.os → (mo, mapOb tu) ∈ N' → s'.TypeIs (.ref mo) "map" := fun s' m' N' I hm => ⟨_, (I.has _ hm).1, rfl⟩
  generalize s.heap.objs.size = S at *
  refine wpAny_pure ⟨plainId_quiet PySem.F.plain_list_iadd _, codeAny_builtin PySem.F.entry_list_iadd ?_⟩
  rw [Around.under_plainId PySem.F.plain_list_iadd _]
  have hT := hTm _ _ _ I1 (.tail _ (.tail _ hmo))
  show wpAny _ A.in1 (Builtin.List.listExtendWith (.ref S) (.ref mo) (.ref S)) _ _ _
  unfold Builtin.List.listExtendWith
  refine wpAny_bind (wpAny_typeOf hT ?_)
  have hne : (S == mo) = false := beq_eq_false_iff_ne.mpr (hSz _ (.tail _ hmo)).symm
  rw [if_neg (by simp [Builtin.List.listSameRef, (hSz _ (.tail _ hmo)).symm])]
  refine wpAny_bind (wpAny_pyIter_slot hT slot_miter (wpAny_call_entry slot_miter hT entry_miter ?_ (args_miter _)))
  show wpAny _ _ (ret (.ref mo)) _ _ _
  refine wpAny_pure ⟨_, rfl, "map", _, hT, slot_mnext.lookup, ?_⟩
  refine wpAny_bind (wpAny_holding ?_)
  unfold Builtin.List.listLengthHint
  refine wpAny_bind (wpAny_specialOf hT map_nolen ?_)
  show wpAny _ A.in1 (specialOf (Value.ref mo) (Str.ofString "__length_hint__") >>= _) _ _ _
  refine wpAny_bind (wpAny_specialOf hT map_nohint ?_)
  refine wpAny_pure ?_
  show wpAny _ A.in1 (rule "list.extend.makes-room" >>= fun _ => Builtin.List.listTouch (.ref S) >>= fun _ => again (.builtin "list.extend.loop" ⟨[.ref S, .ref mo, .ref S], []⟩)) _ _ _
  refine wpAny_bind (wpAny_rule ?_)
  refine wpAny_bind ?_
  show wpAny _ A.in1 (updateSeq S (·.push .none) >>= fun _ => updateSeq S (·.pop)) _ _ _
  have hS1 : s1.heap.get? S = some (listOf #[] 0) := (I1.has _ (.head _)).1
  refine wpAny_bind (wpAny_updateSeq hS1 rfl ?_)
  have hS2 := Heap.get?_update_self (Obj.mapSeq (·.push Value.none)) hS1 rfl
  refine wpAny_updateSeq hS2 rfl ?_
  have hS3 := Heap.get?_update_self (Obj.mapSeq (·.pop)) hS2 rfl
  have I2 := I1.turnA (o' := listOf #[] 2) frS ((Heap.SameBut.update ..).trans (Heap.SameBut.update ..)) hS3 rfl (show Value.type "list" ≠ .type "code" by decide) hSz
  refine wpAny_pure ⟨plainId_quiet PySem.F.plain_extend_loop _, codeAny_mono (extend_map hh hmo htu hls fi frS dis (fun p hp => hSz p (.tail _ hp)) (hSz _ (.head _)) (.ref S) l 0 #[] 2 o { s1 with heap := _ } (I2.mono fun p hp => ?_) ho (fun k => by rw [Nat.zero_add]; exact hx k) hl (by simpa using hz)) fun r s' hr => ?_⟩
  · rcases List.mem_cons.mp hp with rfl | hp
    · exact .tail _ (.head _)
    · rcases List.mem_cons.mp hp with rfl | hp
      · exact .head _
      · exact .tail _ (.tail _ hp)
  · obtain ⟨rfl, vs, c', K', P, kp⟩ := hr
    show wpAny _ A (load S >>= _) _ _ s'
    refine wpAny_bind (wpAny_load (K'.has _ (.head _)).1 ?_)
    refine wpAny_pure ?_
    rw [show ((#[] : Array Value) ++ vs.toArray).toList = vs by simp]
    exact h s' vs (K'.mono fun p hp => .tail _ hp) P fun b x h1 e => kp b x h1 (hSn b x e) ((Heap.get?_update_other _ _ (hSn b x e).symm).trans ((Heap.get?_update_other _ _ (hSn b x e).symm).trans (k1 b x e)))
end
end Mine

end
section
open PySem PySem.W PySem.W.X PyProof.Rows PySem.Calls
set_option maxRecDepth 100000
namespace Mine
section
variable {M : Model} {A : Around} {E : Value → Shared → Prop} {s : Shared} {env : Env}
theorem wpC_eq {α : Type} {m m' : Sem α} {Q : α → Shared → Prop} (e : m = m') (h : wpC M A m' Q E s) : wpC M A m Q E s := e ▸ h
theorem C_execs {st : Stmt} {rest : List Stmt} {Q : Flow → Shared → Prop} (h : wpC M A (exec st env) (fun f s₁ => match f with | .next => wpC M A (execs rest env) Q E s₁ | f => Q f s₁) E s) : wpC M A (execs (st :: rest) env) Q E s := by
  rw [execs_cons]
  refine wpC_bind (wpC_mono h (fun f s₁ y => ?_) fun _ _ y => y)
  cases f <;> first | exact y | exact wpC_pure y
theorem C_Return {e : Expr} {pos : Pos} {Q : Flow → Shared → Prop} (h : wpC M A (eval e env) (fun v s' => Q (.ret v) s') E s) : wpC M A (exec (.Return (some e) pos) env) Q E s := by
  rw [arm_exec_Return]
  refine wpC_on (wpAny_standAt ?_)
  show wpC M A (eval e env >>= fun v => pure (.ret v)) Q E s
  exact wpC_bind (wpC_mono h (fun _ _ y => wpC_pure y) fun _ _ y => y)
theorem C_CallName {x : Str} {px pos : Pos} {args : List Expr} {kws : List Keyword} {Q : Value → Shared → Prop} (h : wpAny M A (eval (.Name x px) env) (fun f s₁ => wpC M A (callWith pos f [] (backTo pos (starEach args env)) (backToKw pos (keywordEach kws env))) Q E s₁) E s) :
    wpC M A (eval (.Call (.Name x px) args kws pos) env) Q E s := by
  refine wpC_eq (show _ = (eval (.Name x px) env >>= fun f => callWith pos f [] (backTo pos (starEach args env)) (backToKw pos (keywordEach kws env))) from rfl) ?_
  exact wpC_on h
theorem C_func {prog : Program} {w : World} {R : Result → Shared → Prop} {body : List Stmt} (h : wpC (model prog w) (A.deeper env) (execs body env) (fun f s' => R (.ok (.ret (match f with | .ret v => v | _ => .none))) s')
      (fun e s' => wpC (model prog w) (A.deeper env) (leaving env e) (fun _ s'' => R (.error e) s'') (fun e' s'' => R (.error e') s'') s') s) : codeC (model prog w) A (.func body env) R s := by
  refine codeC_tree ?_
  show wpC _ (A.deeper env) (do point; match ← (execs body env).onRaise (leaving env) with | .ret v => ret v | _ => ret .none) _ _ s
  refine wpC_on (wpAny_point (wpC_bind (wpC_onRaise (wpC_mono h (fun f s' y => ?_) fun _ _ y => y))))
  cases f <;> exact wpC_pure y
theorem C_AssignName {x : Str} {px pos : Pos} {v : Expr} {Q : Flow → Shared → Prop} (hs : swapsWith v (some (.Name x px)) pos.line env = pure false) (h : wpC M A (eval v env) (fun r s₁ => wpAny M A (storeName env x r) (fun _ s₂ => Q .next s₂) E s₁) E s) :
    wpC M A (exec (.Assign [.Name x px] v pos) env) Q E s := by
  rw [exec_Assign_Name (hs := hs)]
  exact wpC_on (wpAny_standAt (wpC_bind (wpC_mono h (fun r s₁ y => wpC_any (wpAny_bind (wpAny_standAt (wpAny_bind (wpAny_bindName (wpAny_mono y (fun _ _ z => wpAny_pure z) fun _ _ z => z)))))) fun _ _ y => y)))
theorem C_keep {α : Type} {vs : List Value} {m : Sem α} {Q : α → Shared → Prop} (h : wpC M A m Q E s) : wpC M A (m.keep vs) Q E s := fun Γ p i k => by rw [Sem.wp_keep]; exact h Γ p i k
theorem C_operate {vs : List Value} {m : Sem Value} {Q : Value → Shared → Prop} (h : wpC M A m Q E s) : wpC M A (operate vs m) Q E s := fun Γ p i k => by rw [Sem.wp_operate]; exact h Γ p i k
-- a call with its callee and arguments, whatever keeps them
theorem C_callWith {pos : Pos} {f : Value} {first : List Value} {args : List (Bool × Sem Value)} {kws : List (Option Str × Sem Value)} {Q : Value → Shared → Prop}
    (h : wpAny M A (evalArgs f true args kws) (fun a s₁ => ∃ k, Looks M s₁.heap (keeperOf f) k ∧ wpC M A (call f (first ++ a.pos) a.kw) Q E s₁) E s) : wpC M A (callWith pos f first args kws) Q E s := by
  unfold callWith
  refine wpC_on (wpAny_holding (wpAny_mono h (fun a s₁ y => ?_) fun _ _ y => y))
  obtain ⟨k, lk, y⟩ := y
  refine wpC_on (wpAny_standAt ?_)
  refine wpC_on (lk.here ?_)
  have tail : ∀ {t : Sem Value}, wpC M A t Q E s₁ → wpC M A (t >>= fun r => holding [r] point >>= fun _ => pure r) Q E s₁ :=
    fun ht => wpC_bind (wpC_mono ht (fun r s₂ hr => wpC_any (wpAny_bind (wpAny_holding (wpAny_point (wpAny_pure hr))))) fun _ _ x => x)
  have marked (mk : Value) : wpC M A (callMarked mk f (first ++ a.pos) a.kw) Q E s₁ := by unfold callMarked; exact C_keep y
  have oper (vs : List Value) : wpC M A (operate vs (call f (first ++ a.pos) a.kw)) Q E s₁ := C_operate y
  cases k <;> cases (args.any (·.1) || kws.any (·.1.isNone)) <;> dsimp only <;> first | exact tail (marked _) | exact tail (oper _) | exact tail y | (split <;> first | exact tail y | exact tail (marked _))
theorem C_CallAttr {o : Expr} {name : Str} {apos pos : Pos} {args : List Expr} {kws : List Keyword} {Q : Value → Shared → Prop} (hb : attributeBase o name env (eval o env) = eval o env)
    (h : wpAny M A (eval o env) (fun ov s₁ => wpAny M A (getMethod ov name (do return (← importBound o env).getD true)) (fun fx s₂ => ∀ cp, wpC M A (callWith cp fx.1 fx.2 (backTo pos (starEach args env)) (backToKw pos (keywordEach kws env))) Q E s₂) E s₁) E s)
    (hf : methodCallForm (args.length + kws.length) (backTo pos (starEach args env)) (backToKw pos (keywordEach kws env)) = true) (hl : (apos.endLine == pos.line) = true) :
    wpC M A (eval (.Call (.Attribute o name apos) args kws pos) env) Q E s := by
  rw [arm_eval_Call, hb]
  refine wpC_on (wpAny_mono h (fun ov s₁ y => wpC_on (wpAny_standAt ?_)) fun _ _ y => y)
  unfold methodCall
  rw [hf]
  refine wpC_on (wpAny_holding ?_)
  show wpAny M A (getMethod ov name _) _ E s₁
  refine wpAny_mono y (fun fx s₂ z => ?_) fun _ _ z => z
  dsimp only
  unfold methodCallPos
  rw [hl]
  exact wpC_on (wpAny_pure (z _))
theorem codeC_loop' {c : Code} {R : Result → Shared → Prop} (hq : c.quiet = true) (I : Nat → Shared → Prop)
    (turn : ∀ n s, I n s → wpC M (A.under c) (M.den c) (fun fin s' => match fin with | .done f => R (.ok f) s' | .again c' => (c' = c ∧ ∃ m, m < n ∧ I m s') ∨ (c'.quiet = true ∧ codeC M A c' R s')) (fun e s' => R (.error e) s') s) :
    ∀ (n : Nat) (s : Shared), I n s → codeC M A c R s := by
  intro n
  induction n using Nat.strongRecOn with
  | ind n ih =>
    intro s h
    refine codeC_tree (wpC_mono (turn n s h) (fun fin s' y => ?_) fun _ _ y => y)
    cases fin with
    | done f => exact y
    | again c' =>
      rcases y with ⟨rfl, m, lt, i⟩ | y
      · exact ⟨hq, ih m lt s' i⟩
      · exact y
theorem C_forLoop {prog : Program} {w : World} {R : Result → Shared → Prop} {target : Expr} {it : Value} {body orelse : List Stmt} (I : Nat → Shared → Prop)
    (turn : ∀ n s, I n s → wpAny (model prog w) A (pyNext it) (fun r s₁ => match r with
      | none => wpAny (model prog w) A (execs orelse env) (fun f s₃ => R (.ok f) s₃) (fun _ _ => False) s₁
      | some v => wpAny (model prog w) A (assign target env v) (fun _ s₂ => wpC (model prog w) A (execs body env) (fun f s₃ => match f with
          | .next | .cont => ∃ m, m < n ∧ I m s₃
          | .brk => R (.ok .next) s₃
          | .ret v => R (.ok (.ret v)) s₃) (fun _ _ => False) s₂) (fun _ _ => False) s₁) (fun _ _ => False) s)
    (n : Nat) (h : I n s) (ht : ∀ v, letOwnedTupleGo target it v = pure ()) : codeC (model prog w) A (.forLoop target it body orelse env) R s := by
  refine codeC_loop' rfl I (fun n s hI => ?_) n s h
  show wpC _ _ ((forTurn target it body orelse env).onRaise (fun x => do noteFrame x env; theTreesLotGoes x)) _ _ s
  refine wpC_onRaise (E := fun e s' => R (.error e) s') (wpC_mono (E := fun _ _ => False) (Q := fun fin s' => match fin with | .done f => R (.ok f) s' | .again c' => (c' = .forLoop target it body orelse env ∧ ∃ m, m < n ∧ I m s') ∨ (c'.quiet = true ∧ codeC (model prog w) A c' R s')) ?_ (fun _ _ y => y) fun _ _ y => y.elim)
  unfold forTurn
  refine wpC_on (wpAny_standAt ?_)
  refine wpC_on (wpAny_onRaise (wpAny_mono (turn n s hI) (fun r s₁ y => ?_) fun _ _ y => y.elim))
  cases r with
  | none => exact wpC_pure (.inr ⟨rfl, codeC_any (codeAny_block (wpAny_mono y (fun _ _ z => z) fun _ _ z => z.elim))⟩)
  | some v =>
    refine wpC_on (wpAny_of_eq (ht v) ?_)
    refine wpC_bind (wpC_any (wpAny_mono y (fun _ s₂ z => wpC_bind (wpC_mono z (fun f s₃ u => ?_) fun _ _ u => u.elim)) fun _ _ z => z.elim))
    cases f with
    | next => exact wpC_pure (.inl ⟨rfl, u⟩)
    | cont => exact wpC_pure (.inl ⟨rfl, u⟩)
    | brk => exact wpC_pure u
    | ret v => exact wpC_pure u
theorem C_For {target iter : Expr} {body orelse : List Stmt} {pos : Pos} {Q : Flow → Shared → Prop}
    (h : wpAny M A (eval iter env) (fun x s₁ => wpAny M A (pyIter x) (fun it s₂ => codeC M A (.forLoop target it body orelse env) (fun r s' => match r with | .ok f => Q f s' | .error _ => False) s₂) E s₁) E s)
    (hs : ∀ x, foldedSetIterable iter env x = pure x) : wpC M A (exec (.For target iter body orelse pos) env) Q E s := by
  rw [exec_For]
  refine wpC_on (wpAny_standAt (wpC_on (wpAny_mono h (fun x s₁ y => wpC_on (wpAny_of_eq (hs x) (wpC_on (wpAny_standAt (wpC_on (wpAny_holding (wpAny_mono y (fun it s₂ z => ?_) fun _ _ z => z))))))) fun _ _ y => y)))
  unfold runOwn
  refine wpC_onRaise (wpC_run (A := A) (codeC_mono z fun r s' u => ?_))
  cases r with
  | ok f => exact u
  | error e => exact u.elim
theorem C_Try {body orelse : List Stmt} {h₀ : ExceptHandler} {hs : List ExceptHandler} {pos : Pos} {Q : Flow → Shared → Prop}
    (h : wpC M A (execs body env) (fun f s₁ => match f with | .next => wpAny M A (execs orelse env) Q E s₁ | f => Q f s₁)
      (fun e s₁ => wpAny M A (noteFrame e env) (fun _ s₂ => wpAny M A (setFlight e none) (fun _ s₃ => wpAny M A (handleBy e env (h₀ :: hs)) Q E s₃) E s₂) E s₁) s) :
    wpC M A (exec (.Try body (h₀ :: hs) orelse [] pos) env) Q E s := by
  rw [arm_exec_Try]
  refine wpC_on (wpAny_standAt ?_)
  show wpC M A ((execs body env).attempt >>= _) Q E s
  refine wpC_bind (wpC_attempt (wpC_mono h (fun f s₁ y => ?_) fun e s₁ y => ?_))
  · cases f <;> first | exact wpC_any y | exact wpC_pure y
  · exact wpC_any (wpAny_bind (wpAny_mono y (fun _ _ z => wpAny_bind z) fun _ _ z => z))
-- a method object's call
theorem codeC_method {prog : Program} {w : World} {R : Result → Shared → Prop} {q : Addr} {f self : Value} {args : List Value} (hq : s.heap.get? q = some (methodObj f self)) (hf : ∀ i, f ≠ .builtin i)
    (h : codeC (model prog w) A (.call f ⟨self :: args, []⟩) R s) : codeC (model prog w) A (.call (.ref q) ⟨args, []⟩) R s := by
  refine codeC_tree ?_
  show wpC _ A.in1 (load q >>= _) _ _ s
  refine wpC_on (wpAny_load hq ?_)
  cases f with
  | builtin i => exact absurd rfl (hf i)
  | _ => exact wpC_pure ⟨rfl, h⟩
end
end Mine

end
section
open PySem PySem.W PySem.W.X PyProof.Rows PySem.Calls
set_option maxRecDepth 100000
namespace Mine
section
variable {M : Model} {A : Around} {E : Value → Shared → Prop} {s : Shared} {env : Env}
theorem evalArgs_star {f : Value} {e : Expr} {p pos : Pos} {Q : Args → Shared → Prop}
    (h : wpAny M A (eval e env) (fun v s₁ => wpAny M A (notIterableAtAll v) (fun b s₂ => b = false ∧ wpAny M A (collect v) (fun vs s₃ => Q ⟨vs, []⟩ s₃) E s₂) E s₁) E s) :
    wpAny M A (evalArgs f true (backTo pos (starEach [.Starred e p] env)) (backToKw pos (keywordEach [] env))) Q E s := by
  unfold evalArgs
  show wpAny M A ((do let v ← eval e env; standAt pos; pure v) >>= fun l => pure (([] : List Value), some l) >>= _) Q E s
  refine wpAny_bind (wpAny_bind (wpAny_mono h (fun v s₁ y => wpAny_bind (wpAny_standAt (wpAny_pure (wpAny_bind (wpAny_pure ?_))))) fun _ _ y => y))
  dsimp only
  refine wpAny_holding ?_
  rw [if_pos (by rfl)]
  refine wpAny_bind (wpAny_evalAll_nil ?_)
  refine wpAny_bind (wpAny_bind (wpAny_mono y (fun b s₂ z => ?_) fun _ _ z => z))
  obtain ⟨rfl, z⟩ := z
  rw [if_neg Bool.false_ne_true]
  exact wpAny_holding (wpAny_mono z (fun vs s₃ u => wpAny_pure u) fun _ _ u => u)
end
section
variable {w : World} {s : Shared}
-- a def's call under the claim's caller: its frame
theorem enterC {A : Around} {n : Nat} {f : Addr} {name qual : Str} {params : Arguments} {body : List Stmt} {scope : Scope} {dV kV doc pm cdv ct : Value} {an od : Option Addr} {args : Args} {binds : List (Str × Value)} {R : Result → Shared → Prop}
    (fit : Fit n A) (ok : Ok w s.heap)
    (hl : (K w.params).lookup f = some { cls := .type "function", dict := od, data := .func (fnOf name qual params body scope dV kV doc pm an cdv ct) })
    (hcd : codeIn (K w.params) cdv qual = true) (hbind : BindsTo s (fnOf name qual params body scope dV kV doc pm an cdv ct) args binds)
    (hloc : (binds.all fun x => decide (scope.names.lookup x.1 = some .local)) = true) (hcell : ∀ x ∈ scope.names, x.2 ≠ .cell)
    (h : ∀ s', In w s s.heap.objs.size (fun x => binds.reverse.lookup x) [] s'.heap s'.gens s'.os → (∀ b o, s.heap.get? b = some o → s'.heap.get? b = some o) →
      wpC (model PW w) (A.deeper (envOf qual scope s.heap.objs.size f cdv)) (execs body (envOf qual scope s.heap.objs.size f cdv))
        (fun fl s' => R (.ok (.ret (match fl with | .ret v => v | _ => .none))) s') (fun e s' => wpAny (model PW w) (A.deeper (envOf qual scope s.heap.objs.size f cdv)) (leaving (envOf qual scope s.heap.objs.size f cdv) e) (fun _ s'' => R (.error e) s'') (fun e' s'' => R (.error e') s'') s') s')
    (hco : scope.isCoroutine = false) (hgen : scope.isGenerator = false) (hk : scope.kind = .function) : codeC (model PW w) A (.call (.ref f) args) R s := by
  refine codeC_fn (fd := fnOf name qual params body scope dV kV doc pm an cdv ct) fit.room (ok.k _ _ hl) rfl hco hgen rfl (codeRec_of ok.k hcd) ?_
  refine wpC_any (hbind _ _ _ _ (wpC_any (wpAny_newFunctionEnv hcell (locs hloc) (fun h1 hns hsb => ?_) hk)))
  have k1 : ∀ b o, s.heap.get? b = some o → h1.get? b = some o := fun b o e => (hsb.2 b (Nat.ne_of_lt (Heap.lt_size e))).trans (Heap.get?_push_of_some _ e)
  refine ⟨(ok.keeps k1).nolimit, C_func ?_⟩
  refine wpC_mono (h { s with heap := h1, toks := s.toks + binds.length } ⟨hns, by
    cases q : s.heap.get? s.heap.objs.size with
    | none => rfl
    | some o => exact absurd (Heap.lt_size q) (Nat.lt_irrefl _), ok, .of_keep k1, fun b o e => ⟨o, k1 b o e⟩, rfl, rfl, ok.keeps k1, fun _ hp => nomatch hp⟩ k1) (fun _ _ y => y) (fun _ _ y => wpC_any y)
end
theorem oi_type : typeOf (.builtin "object.__init__") = pure (.type "wrapper_descriptor") := by show builtinType _ = _; rw [builtinType_eq_fast]; kernel_rfl
section
variable {w : World} {A : Around} {s : Shared}
theorem newTup_I {M : Model} {E : Value → Shared → Prop} {s₀ : Shared} {L : Addr} {m : LMap} {N : List (Addr × Obj)} {vs : List Value} {Q : Value → Shared → Prop} (I : In w s₀ L m N s.heap s.gens s.os) (h : ∀ s' a, In w s₀ L m ((a, tupObj vs.toArray) :: N) s'.heap s'.gens s'.os → (∀ b o, s.heap.get? b = some o → s'.heap.get? b = some o) → Q (.ref a) s') (hsz : vs.length ≤ sizeLine := by size_fits) : wpAny M A (newTuple vs) Q E s :=
  wpAny_newObj_type (h { s with heap := s.heap.push (tupObj vs.toArray) } _ (I.push rfl rfl) fun _ _ e => Heap.get?_push_of_some _ e) (by show vs.toArray.size ≤ sizeLine; rw [List.size_toArray]; exact hsz)
set_option maxHeartbeats 4000000 in
theorem new_code {n : Nat} (fit : Fit (n + 1) A) {a b : Str} {ta tb : Tok} {R : Result → Shared → Prop} (ok : Ok w s.heap)
    (h : ∀ s' p d, (∀ b o, s.heap.get? b = some o → s'.heap.get? b = some o) → s'.gens = s.gens → s'.os = s.os → s.heap.get? p = none → s.heap.get? d = none → s'.heap.get? p = some (pairOb d a b ta tb) → s'.heap.get? d = some noDict → R (.ok (.ret (.ref p))) s') :
    codeC (model PW w) A (.call (.ref 89) ⟨[.ref 162, .str a ta, .str b tb], []⟩) R s := by
  refine' enterC (name := "__new__") (qual := "Pair.__new__") (params := cpars 5 4) (body := _) (scope := _) (dV := .none) (kV := .none) (doc := .str "Create new instance of Pair(name, value)" 297) (pm := .str "cpy313.importlib.metadata._collections" 210) (cdv := .ref 88) (ct := .none) (an := none) (od := none)
    (binds := [("_cls", .ref 162), ("name", .str a ta), ("value", .str b tb)]) fit ok ?hl ?hcd ?hb ?hloc ?hcell ?h ?h1 ?h2 ?h3
  case hl => exact (by kernel_rfl : (K w.params).lookup 89 = some { cls := .type "function", data := .func (fnOf "__new__" "Pair.__new__" (cpars 5 4) (cbody 5 4) (cscope 5 4) .none .none (.str "Create new instance of Pair(name, value)" 297) (.str "cpy313.importlib.metadata._collections" 210) none (.ref 88) .none) })
  case hcd => kernel_rfl
  case hloc => rfl
  case hcell => decide
  case h1 => rfl
  case h2 => rfl
  case h3 => rfl
  case hb => exact BindsTo.of_eq rfl
  case h =>
    intro s1 I1 k1
    generalize hB : cbody 5 4 = B
    generalize hS : cscope 5 4 = S
    conv at hB => lhs; whnf
    conv at hS => lhs; whnf
    subst hB hS
    generalize hE : envOf _ _ _ 89 _ = env'
    have fA : Fit n (A.deeper env') := fit.deeper
    generalize hA : A.deeper env' = A' at *
    subst hE
    refine wpC_any ?_
    (repeat' (first | ((with_reducible show wpAny _ _ (eval (Expr.Name _ _) _) _ _ _); first | with_reducible (first | refine ldE (by assumption) (by ((repeat (first | assumption | exact upd_same | refine Eq.trans (upd_ne (by decide)) ?_)); all_goals rfl)) ?_ | refine biE (by assumption) (gn_tuple _) gb_tuple ?_) | (first | refine ldE (by assumption) (by ((repeat (first | assumption | exact upd_same | refine Eq.trans (upd_ne (by decide)) ?_)); all_goals rfl)) ?_ | refine biE (by assumption) (gn_tuple _) gb_tuple ?_)) | ((with_reducible show wpAny _ _ (getMethod (Value.type "tuple") _ _) _ _ _); first | with_reducible ((refine getM_type (v := .builtin "tuple.__new__") (In.ok (by assumption)) type_of_tuple (by decide +kernel) (by kernel_rfl) rfl ?_)) | ((refine getM_type (v := .builtin "tuple.__new__") (In.ok (by assumption)) type_of_tuple (by decide +kernel) (by kernel_rfl) rfl ?_))) | ((with_reducible show wpAny _ _ (newTuple _) _ _ _); first | with_reducible ((refine newTup_I (by assumption) ?_; intro _ _ _ _)) | ((refine newTup_I (by assumption) ?_; intro _ _ _ _))) | ((with_reducible show wpAny _ _ _ _ _ _); walk1) | ((with_reducible show ite _ _ _); walk1)))
    rename_i s2 t2 I2 k2
    refine wpAny_mono (lift0 fA (tup_new w _ t2 a b ta tb _ I2.ok (I2.has _ (.head _)).1)) (fun v s3 hv => ?_) (fun _ _ x => x)
    obtain ⟨p, d, rfl, k3, g3, o3, fp, fd, ep, ed⟩ := hv
    have none_of : ∀ q, s2.heap.get? q = none → s.heap.get? q = none := fun q hq => by
      cases z : s.heap.get? q with
      | none => rfl
      | some o => rw [k2 _ _ (k1 _ _ z)] at hq; cases hq
    exact h s3 p d (fun b o e => k3 b o (k2 b o (k1 b o e))) (g3.trans I2.gens) (o3.trans I2.os) (none_of _ fp) (none_of _ fd) ep ed
set_option maxHeartbeats 4000000 in
theorem cls_news {n : Nat} (fit : Fit (n + 2) A) {a b : Str} {ta tb : Tok} {R : Result → Shared → Prop} (ok : Ok w s.heap)
    (h : ∀ s' p d, (∀ b o, s.heap.get? b = some o → s'.heap.get? b = some o) → s'.gens = s.gens → s'.os = s.os → s.heap.get? p = none → s.heap.get? d = none → s'.heap.get? p = some (pairOb d a b ta tb) → s'.heap.get? d = some noDict → R (.ok (.ret (.ref p))) s') :
    codeC (model PW w) A (.call (.ref 162) ⟨[.str a ta, .str b tb], []⟩) R s := by
  have hc : (clsIn (K w.params) 162).isSome = true := by kernel_rfl
  obtain ⟨cd, hc⟩ := Option.isSome_iff_exists.mp hc
  have hm : Looks (model PW w) s.heap (mroOf (.ref 162)) cd.mro := (looks_clsIn ok.k hc).andThen .now
  have he : cd.mro.isEmpty = false := by
    have : (clsIn (K w.params) 162).map (·.mro.isEmpty) = some false := by kernel_rfl
    rw [hc] at this; exact Option.some.inj this
  unfold clsIn at hc
  split at hc
  case h_2 => cases hc
  rename_i oc od cd' sl ho
  refine codeC_tree ?_
  show wpC _ A.in1 (load 162 >>= _) _ _ s
  refine wpC_on (wpAny_load (ok.k _ _ ho) ?_)
  dsimp only
  unfold callAny.viaDunder
  refine wpC_on ((looks_specialIn ok.k (by kernel_rfl : specialIn (K w.params) (.ref 162) "__call__" = some (some (.builtin "type.__call__")))).here ?_)
  dsimp only
  rw [tc_bind]
  refine wpC_on (wpAny_pure ?_)
  dsimp only
  refine wpC_on (wpAny_of_eq (show callAny.plainCallee (.builtin "type.__call__") = pure true from rfl) ?_)
  refine wpC_any (wpAny_pure ⟨rfl, ?_⟩)
  show codeC (model PW w) A (.call (.builtin "type.__call__") ⟨[.ref 162, .str a ta, .str b tb], []⟩) R s
  refine codeC_call_builtin (Code.quiet_builtin _ (by decide +kernel)) (@check_slot (model PW w) _ _ s "type.__call__" "type" "__call__" (.ref 162) [.str a ta, .str b tb] [] _ PySem.F.bk_type_call PySem.F.sp_type_call (looks_instIn ok.k (by kernel_rfl)) (tc_args _ _ _) ?_)
  refine codeC_builtin entry_typeCall ?_
  unfold Builtin.«type.__call__»
  dsimp only
  rw [if_neg (by decide)]
  refine wpC_on (hm.here ?_)
  rw [he, if_neg Bool.false_ne_true]
  refine wpC_on ((made_new_none (M := model PW w) ok rfl rfl).here ?_)
  dsimp only
  have gn : findCls (K w.params) (.ref 162) (.type "type") "__new__" = some (.get (.builtin "staticmethod.__get__") (.ref 140) .none (.ref 162)) := by kernel_rfl
  refine wpC_on (cls_bind ok.k (by kernel_rfl) gn (wpAny_call (sm_get (s := { s with toks := s.toks + 1 }) ok.k (by kernel_rfl : recIn (K w.params) 140 "staticmethod" = some [.ref 89]) (handed_on rfl ?_))))
  refine wpC_bind (wpC_holding (wpC_call ?_))
  have fit' : Fit (n + 1) (A.under (.builtin "type.__call__" ⟨[.ref 162, .str a ta, .str b tb], []⟩)) := by
    refine ⟨fit.hd, ?_, ?_⟩
    · rw [depth_tc]; have := fit.depth; omega
    · show A.units + 1 + 10 * (n + 1) ≤ 5000
      have := fit.units; omega
  refine new_code (n := n) fit' ok fun s2 p d k2 g2 o2 fp fd ep ed => ?_
  have ok2 : Ok w s2.heap := ok.keeps k2
  have ty : Looks (model PW w) s2.heap (typeOf (.ref p)) (.ref 162) := (Looks.ld ep).andThen .now
  refine wpC_on ((looks_inst ty (looks_subIn ok2.k (by kernel_rfl : subIn (K w.params) (.ref 162) (.ref 162) = some true))).here ?_)
  rw [if_neg (by decide)]
  refine wpC_any (wpAny_bind (wpAny_holding ?_))
  unfold callSpecial? specialOf
  refine wpAny_bind (wpAny_bind (ty.here ((looks_findIn ok2.k (by kernel_rfl : findIn (K w.params) (.ref 162) "__init__" = some (some (.builtin "object.__init__")))).here ?_)))
  dsimp only
  refine wpAny_holding ?_
  unfold bindSpecial
  refine wpAny_bind (wpAny_bind (wpAny_of_eq oi_type (wpAny_pure ?_)))
  refine wpAny_bind (wpAny_mono (lift0 fit' (pair_init w s2 p d a b ta tb _ ok2 ep ed)) (fun v s3 hv => ?_) (fun _ _ x => x))
  obtain ⟨rfl, k3, g3, o3⟩ := hv
  refine wpAny_pure ?_
  dsimp only
  rw [if_neg (by decide)]
  exact wpAny_pure (h s3 p d (fun b o e => k3 _ _ (k2 b o e)) (g3.trans g2) (o3.trans o2) fp fd (k3 _ _ ep) (k3 _ _ ed))
end
end Mine

end
section
open PySem PySem.W PySem.W.X PyProof.Rows PySem.Calls
set_option maxRecDepth 100000
namespace Mine
theorem map_end1 {s : Shared} {h : Heap} {d : Drawn} {t : Nat} {mo tu it ls : Addr} {news : List (Addr × Obj)} (D : Mem s.heap h [] ((mo, mapOb tu) :: (tu, tupObj #[.ref it]) :: (it, { cls := .type "list_iterator", data := .fields #[.ref ls, .int 0 0] }) :: news)) :
    ∃ m u i, Value.ref mo = .ref m ∧ (∀ b o, s.heap.get? b = some o → h.get? b = some o) ∧ (⟨h, s.gens, d, t, s.os⟩ : Shared).gens = s.gens ∧ (⟨h, s.gens, d, t, s.os⟩ : Shared).os = s.os ∧
      s.heap.get? m = none ∧ s.heap.get? u = none ∧ s.heap.get? i = none ∧ h.get? m = some (mapOb u) ∧ h.get? u = some (tupObj #[.ref i]) ∧ h.get? i = some { cls := .type "list_iterator", data := .fields #[.ref ls, .int 0 0] } :=
  ⟨_, _, _, rfl, keep_of_mem D, rfl, rfl, mem_fresh D 0 rfl, mem_fresh D 1 rfl, mem_fresh D 2 rfl, D.at 0 _ _ rfl, D.at 1 _ _ rfl, D.at 2 _ _ rfl⟩
section
local macro_rules | `(tactic| x_close) => `(tactic| exact map_end1 (by assumption))
set_option maxHeartbeats 0 in
theorem map_call (w : World) (s : Shared) (ls : Addr) (its : Array Value) (n : Nat) (E : Value → Shared → Prop) (ok : Ok w s.heap) (h1 : s.heap.get? ls = some { cls := .type "list", data := .seq its n }) :
    wpAny (model PW w) A0 (call (.type "map") [.builtin "str.strip", .ref ls]) (fun r s' => ∃ mo tu it, r = .ref mo ∧ (∀ b o, s.heap.get? b = some o → s'.heap.get? b = some o) ∧ s'.gens = s.gens ∧ s'.os = s.os ∧
      s.heap.get? mo = none ∧ s.heap.get? tu = none ∧ s.heap.get? it = none ∧ s'.heap.get? mo = some (mapOb tu) ∧ s'.heap.get? tu = some (tupObj #[.ref it]) ∧ s'.heap.get? it = some { cls := .type "list_iterator", data := .fields #[.ref ls, .int 0 0] }) E s := by
  have KX := ok.k
  x_run
end
section
variable {w : World} {A : Around} {E : Value → Shared → Prop} {s s₀ : Shared} {m : LMap} {x : Str} {t u v : Tok}
theorem eq_sign : Str.ofString "=" = ⟨#[61]⟩ := by decide
theorem split_In {Q : Value → Shared → Prop} (I : In w s₀ s₀.heap.objs.size m [] s.heap s.gens s.os) (k : ∀ b o, s₀.heap.get? b = some o → s.heap.get? b = some o) (hsz : x.length ≤ 1000)
    (h : ∀ s' ls l, In w s₀ s₀.heap.objs.size m [(ls, listOf (strValues l).toArray 0)] s'.heap s'.gens s'.os → (∀ b o, s₀.heap.get? b = some o → s'.heap.get? b = some o) → l.map (·.1) = Txt.splitMax x ⟨#[61]⟩ 1 → (∀ a ∈ l.map (·.1), a.length ≤ x.length) → Q (.ref ls) s') :
    wpAny (model PW w) A (call (.builtin "str.split") [.str x t, .str "=" u, .int 1 v]) Q E s := by
  rw [eq_sign]
  refine splitN2A (h₀ := s₀.heap) (L := s₀.heap.objs.size) (m := m) (news := []) ⟨I.ns, k, Nat.le_refl _⟩ (fun _ hp => nomatch hp) rfl (by decide) (fun l h' tk e _ sh il F N => ?_) (by rw [sizeLine_eq]; omega)
  have hls := N _ (.head _)
  refine h { s with heap := h', toks := tk } _ l ⟨F.ns, I.fresh, I.ok₀, .of_keep F.keep, fun b o e => ⟨o, F.keep b o e⟩, I.gens, I.os, I.ok₀.keeps F.keep, fun p hp => ?_⟩ F.keep e sh
  rcases List.mem_cons.mp hp with rfl | hp
  · exact ⟨hls.1, Nat.ne_of_gt I.ns.lt, rfl⟩
  · cases hp
end
end Mine

end
section
open PySem PySem.W PySem.W.X PyProof.Rows PySem.Calls PySem.Builtin PySem.Builtin.Str
set_option maxRecDepth 100000
namespace Mine
theorem sub_len (t : Str) (i j : Nat) (hj : j ≤ t.length) : (strSub t i j).length = j - i := by
  show (t.cps.extract i j).size = j - i
  have : j ≤ t.cps.size := hj
  rw [Array.size_extract]; omega
theorem sub_ch (t : Str) (i j k : Nat) (hj : j ≤ t.length) (hk : i + k < j) : ch (strSub t i j) k = ch t (i + k) := by
  have h1 : j ≤ t.cps.size := hj
  unfold ch
  show (t.cps.extract i j).getD k 0 = t.cps.getD (i + k) 0
  rw [Array.getD_eq_getD_getElem?, Array.getD_eq_getD_getElem?, Array.getElem?_extract]
  rw [if_pos (by omega)]
theorem sub_sub (t : Str) (i j k l : Nat) (hj : j ≤ t.length) (hl : i + l ≤ j) : strSub (strSub t i j) k l = strSub t (i + k) (i + l) := by
  unfold strSub
  rw [Array.extract_extract]
  congr 1
  congr 1
  omega
theorem at_iff (x : Str) (i : Nat) : StrLaws.At x ⟨#[61]⟩ x.length i ↔ i < x.length ∧ ch x i = 61 := by
  refine (StrLaws.subAt_one x 61 i).trans ?_
  rw [Array.getElem?_toList]
  unfold ch
  show x.cps[i]? = some 61 ↔ i < x.cps.size ∧ _
  rw [Array.getD_eq_getD_getElem?]
  constructor
  · intro h
    have := (Array.getElem?_eq_some_iff.mp h).1
    exact ⟨this, by rw [h]; rfl⟩
  · rintro ⟨h1, h2⟩
    rw [Array.getElem?_eq_getElem h1] at h2 ⊢
    exact congrArg some h2
theorem split_eq (x : Str) : (NoHit x 0 ∧ Txt.splitMax x ⟨#[61]⟩ 1 = [x]) ∨ ∃ k, k < x.length ∧ ch x k = 61 ∧ (∀ v, v < k → ch x v ≠ 61) ∧ Txt.splitMax x ⟨#[61]⟩ 1 = [strSub x 0 k, strSub x (k + 1) x.length] := by
  have lim : limitOf x 1 = 1 := rfl
  have k1 : (decide (PySem.Builtin.Str.strKind x < PySem.Builtin.Str.strKind ⟨#[61]⟩)) = false := by
    have : PySem.Builtin.Str.strKind (⟨#[61]⟩ : Str) = 1 := by decide +kernel
    rw [this]
    refine decide_eq_false ?_
    unfold PySem.Builtin.Str.strKind
    split
    · omega
    · split <;> omega
  unfold Txt.splitMax
  rw [lim, k1, Bool.or_false]
  by_cases h0 : x.length < 1
  · refine .inl ⟨fun i _ hi => by omega, ?_⟩
    exact if_pos (decide_eq_true h0)
  · rw [if_neg (by rw [decide_eq_true_eq]; exact h0)]
    rcases StrLaws.occ_head_from x ⟨#[61]⟩ 0 1 (Nat.le_refl 1) with ⟨e, hn⟩ | ⟨k, r, e, hlo, hk, hn⟩
    · refine .inl ⟨fun i h1 h2 h3 => hn i h1 ((at_iff x i).mpr ⟨h2, h3⟩), ?_⟩
      rw [e]; rfl
    · obtain ⟨k1, k2⟩ := (at_iff x k).mp hk
      refine .inr ⟨k, k1, k2, fun v hv hc => hn v (Nat.zero_le _) hv ((at_iff x v).mpr ⟨by omega, hc⟩), ?_⟩
      have hr : r = [] := by
        have := StrLaws.occ_length_le x ⟨#[61]⟩ 0 x.length 1
        rw [e, List.length_cons] at this
        exact List.length_eq_zero_iff.mp (by omega)
      rw [e, hr]
      rfl
-- the signs of the law's texts
structure Good (t : Str) : Prop where
  size : 1 ≤ t.length
  small : t.length ≤ 16
  first : ch t 0 = 61
  last : ch t (t.length - 1) = 61
  signs : ∀ i, i < t.length → ch t i = 97 ∨ ch t i = 61 ∨ ch t i = 32 ∨ ch t i = 98
theorem space_iff {t : Str} (g : Good t) {i : Nat} (h : i < t.length) : Unicode.isSpace (ch t i) = decide (ch t i = 32) := by
  rcases g.signs i h with e | e | e | e <;> rw [e] <;> decide +kernel
-- a part of the text without the blanks at its ends
theorem strip_part {t : Str} (g : Good t) {i j : Nat} (hij : i ≤ j) (hj : j ≤ t.length) : ∃ lo hi, i ≤ lo ∧ lo ≤ hi ∧ hi ≤ j ∧ Txt.strip (strSub t i j) = strSub t lo hi ∧ (∀ k, i ≤ k → k < lo → ch t k = 32) ∧ (lo = j ∨ ch t lo ≠ 32) ∧ (∀ k, hi ≤ k → k < j → ch t k = 32) ∧ (hi = lo ∨ ch t (hi - 1) ≠ 32) := by
  have hl := sub_len t i j hj
  obtain ⟨a1, a2, a3⟩ := lo_facts Unicode.isSpace (strSub t i j)
  obtain ⟨b1, b2, b3, b4⟩ := hi_facts Unicode.isSpace (strSub t i j) _ a1
  have e : Txt.strip (strSub t i j) = strSub (strSub t i j) (stripLo Unicode.isSpace true (strSub t i j)) (stripHi Unicode.isSpace true (strSub t i j) (stripLo Unicode.isSpace true (strSub t i j))) := stripBy_eq _ true true _
  have key : ∀ k, k < j - i → Unicode.isSpace ((strSub t i j).cps.getD k 0) = decide (ch t (i + k) = 32) := fun k hk => by
    have : (strSub t i j).cps.getD k 0 = ch t (i + k) := sub_ch t i j k hj (by omega)
    rw [this]; exact space_iff g (by omega)
  rw [e]
  generalize stripHi Unicode.isSpace true (strSub t i j) (stripLo Unicode.isSpace true (strSub t i j)) = hi at *
  generalize stripLo Unicode.isSpace true (strSub t i j) = lo at *
  rw [hl] at a1 a3 b2 b3
  refine ⟨i + lo, i + hi, by omega, by omega, by omega, sub_sub t i j lo hi hj (by omega), fun k h1 h2 => ?_, ?_, fun k h1 h2 => ?_, ?_⟩
  · have := a2 (k - i) (by omega)
    rw [key _ (by omega), decide_eq_true_eq, show i + (k - i) = k by omega] at this
    exact this
  · rcases a3 with h | h
    · exact .inl (by omega)
    · by_cases hlt : lo < j - i
      · rw [key _ hlt, decide_eq_false_iff_not] at h; exact .inr h
      · exact .inl (by omega)
  · have := b3 (k - i) (by omega) (by omega)
    rw [key _ (by omega), decide_eq_true_eq, show i + (k - i) = k by omega] at this
    exact this
  · rcases b4 with h | h
    · exact .inl (by omega)
    · by_cases hlt : lo < hi
      · rw [key _ (by omega), decide_eq_false_iff_not] at h
        exact .inr (by rwa [show i + hi - 1 = i + (hi - 1) by omega])
      · exact .inl (by omega)
-- one step: what the parse of the rest behind b tells
theorem step_law {t : Str} (g : Good t) {b : Nat} (hb : b ≤ t.length) (hs : b = t.length ∨ ch t b ≠ 32) :
    (NoHit t b ∧ Txt.splitMax (strSub t b t.length) ⟨#[61]⟩ 1 = [strSub t b t.length]) ∨
    ∃ f b' x y, HitR t b f b' ∧ (b' = t.length ∨ ch t b' ≠ 32) ∧ Txt.splitMax (strSub t b t.length) ⟨#[61]⟩ 1 = [x, y] ∧ (Txt.strip x).length = f - b ∧ Txt.strip y = strSub t b' t.length := by
  have hl := sub_len t b t.length (Nat.le_refl _)
  rcases split_eq (strSub t b t.length) with ⟨hn, e⟩ | ⟨k, h1, h2, h3, e⟩
  · refine .inl ⟨fun i h1 h2 h3 => hn (i - b) (Nat.zero_le _) (by omega) ?_, e⟩
    rw [sub_ch t b t.length (i - b) (Nat.le_refl _) (by omega), show b + (i - b) = i by omega]; exact h3
  · right
    rw [hl] at h1 e
    rw [sub_ch t b t.length k (Nat.le_refl _) (by omega)] at h2
    have h3' : ∀ i, b ≤ i → i < b + k → ch t i ≠ 61 := fun i i1 i2 c => h3 (i - b) (by omega) (by rw [sub_ch t b t.length _ (Nat.le_refl _) (by omega), show b + (i - b) = i by omega]; exact c)
    rw [sub_sub t b t.length 0 k (Nat.le_refl _) (by omega), sub_sub t b t.length (k + 1) (t.length - b) (Nat.le_refl _) (by omega), show b + 0 = b by omega, show b + (t.length - b) = t.length by omega] at e
    obtain ⟨lo, hi, a1, a2, a3, a4, a5, a6, a7, a8⟩ := strip_part g (i := b) (j := b + k) (by omega) (by omega)
    obtain ⟨lo2, hi2, c1, c2, c3, c4, c5, c6, c7, c8⟩ := strip_part g (i := b + (k + 1)) (j := t.length) (by omega) (Nat.le_refl _)
    have elo : lo = b := by
      rcases Nat.lt_or_ge b lo with h | h
      · have := a5 b (Nat.le_refl _) h
        rcases hs with hs | hs
        · omega
        · exact absurd this hs
      · omega
    have ehi2 : hi2 = t.length := by
      rcases Nat.lt_or_ge hi2 t.length with h | h
      · have := c7 (t.length - 1) (by omega) (by omega)
        rw [g.last] at this; cases this
      · omega
    subst elo ehi2
    refine ⟨hi, lo2, _, _, ⟨lo + k, by omega, by omega, h2, h3', a2, a3, fun i i1 i2 => a7 i i1 i2, ?_, by omega, by omega, fun i i1 i2 => c5 i (by omega) i2, c6⟩, c6, e, ?_, c4⟩
    · rcases a8 with h | h
      · exact .inl h
      · exact .inr h
    · rw [a4, sub_len _ _ _ (by omega)]
end Mine

end
section
open PySem PySem.W PySem.W.X PyProof.Rows PySem.Calls
set_option maxRecDepth 100000
namespace Mine
section
set_option maxHeartbeats 4000000 in
theorem parse_code {A : Around} {n : Nat} (fit : Fit (n + 3) A) {outer : List Env} (hfr : A.frames = some outer) (w : World) (s : Shared) (x : Str) (tx : Tok) (ok : Ok w s.heap) (hx : x.length ≤ 1000) {base : Heap} (hb : base.StaysIn s.heap) (hfl : s.heap.FunFrames base outer) (R : Result → Shared → Prop)
    (shape : (∃ a, Txt.splitMax x ⟨#[61]⟩ 1 = [a]) ∨ ∃ a b, Txt.splitMax x ⟨#[61]⟩ 1 = [a, b])
    (hit : ∀ s' p d a b ta tb, Txt.splitMax x ⟨#[61]⟩ 1 = [a, b] → (∀ q o, s.heap.get? q = some o → s'.heap.get? q = some o) → s'.gens = s.gens → s'.os = s.os → s.heap.get? p = none → s.heap.get? d = none → s'.heap.get? p = some (pairOb d (Txt.strip a) (Txt.strip b) ta tb) → s'.heap.get? d = some noDict → R (.ok (.ret (.ref p))) s')
    (miss : ∀ s' e t a, Txt.splitMax x ⟨#[61]⟩ 1 = [a] → s'.gens = s.gens → s'.os = s.os → Heap.FlyingW base outer e (.type "TypeError") (.ref t) s'.heap → s.heap.UpToSlots s'.heap → R (.error (.ref e)) s') :
    codeC (model PW w) A (.call (.ref 156) ⟨[.ref 162, .str x tx], []⟩) R s := by
  refine' enterC (name := "parse") (qual := "Pair.parse") (params := cpars 6 0) (body := _) (scope := _) (dV := .none) (kV := .none) (doc := .none) (pm := .str "cpy313.importlib.metadata._collections" 210) (cdv := .ref 155) (ct := .none) (an := some 159) (od := none)
    (binds := [("cls", .ref 162), ("text", .str x tx)]) fit ok ?hl ?hcd ?hb ?hloc ?hcell ?h ?h1 ?h2 ?h3
  case hl => exact (by kernel_rfl : (K w.params).lookup 156 = some { cls := .type "function", data := .func (fnOf "parse" "Pair.parse" (cpars 6 0) (cbody 6 0) (cscope 6 0) .none .none .none (.str "cpy313.importlib.metadata._collections" 210) (some 159) (.ref 155) .none) })
  case hcd => kernel_rfl
  case hloc => rfl
  case hcell => decide
  case h1 => rfl
  case h2 => rfl
  case h3 => rfl
  case hb => exact BindsTo.of_eq rfl
  case h =>
    intro s1 I1 k1
    generalize hB : cbody 6 0 = B
    generalize hS : cscope 6 0 = S
    conv at hB => lhs; whnf
    conv at hS => lhs; whnf
    subst hB hS
    generalize hE : envOf _ _ _ 156 _ = env'
    have hAf : (A.deeper env').frames = some (env' :: outer) := by
      show pushEnvs [env'] A.frames = _
      rw [hfr]; rfl
    have hLv : (∃ L o, env'.frame = some L ∧ base.get? L = none ∧ s1.heap.get? L = some o ∧ ∀ vs, o.data ≠ .fields vs) := by
      obtain ⟨o, es, ep, e, d, _⟩ := I1.ns
      refine ⟨s.heap.objs.size, o, by rw [← hE]; rfl, hb.fresh, e, fun vs q => ?_⟩
      rw [d] at q; cases q
    have hk' : env'.scope.kind ≠ .module := by rw [← hE]; exact fun q => by cases q
    have fA : Fit (n + 2) (A.deeper env') := fit.deeper
    generalize hA : A.deeper env' = A' at *
    subst hE
    refine C_execs (C_Return (C_CallName ?_))
    have ok1 := I1.ok
    (repeat' (first | ((with_reducible show wpAny _ _ (eval (Expr.Name _ _) _) _ _ _); first | with_reducible (first | refine ldE (by assumption) (by ((repeat (first | assumption | exact upd_same | refine Eq.trans (upd_ne (by decide)) ?_)); all_goals rfl)) ?_ | refine biE (by assumption) (gn_map _) gb_map ?_ | refine biE (by assumption) (gn_str _) gb_str ?_) | (first | refine ldE (by assumption) (by ((repeat (first | assumption | exact upd_same | refine Eq.trans (upd_ne (by decide)) ?_)); all_goals rfl)) ?_ | refine biE (by assumption) (gn_map _) gb_map ?_ | refine biE (by assumption) (gn_str _) gb_str ?_)) | ((with_reducible show wpAny _ _ (getAttr (Value.type "str") _ _) _ _ _); first | with_reducible ((refine getA_type (v := .builtin "str.strip") (by assumption) type_of_str (by decide +kernel) (by kernel_rfl) rfl ?_)) | ((refine getA_type (v := .builtin "str.strip") (by assumption) type_of_str (by decide +kernel) (by kernel_rfl) rfl ?_))) | ((with_reducible show wpAny _ _ (call (Value.builtin "str.split") _ _) _ _ _); first | with_reducible ((refine split_In (by assumption) (by assumption) (by assumption) ?_; intro _ _ _ _ _ _ _)) | ((refine split_In (by assumption) (by assumption) (by assumption) ?_; intro _ _ _ _ _ _ _))) | ((with_reducible show wpAny _ _ _ _ _ _); walk1) | ((with_reducible show ite _ _ _); walk1)))
    refine C_callWith (evalArgs_star ?_)
    (repeat' (first | ((with_reducible show wpAny _ _ (eval (Expr.Name _ _) _) _ _ _); first | with_reducible (first | refine ldE (by assumption) (by ((repeat (first | assumption | exact upd_same | refine Eq.trans (upd_ne (by decide)) ?_)); all_goals rfl)) ?_ | refine biE (by assumption) (gn_map _) gb_map ?_ | refine biE (by assumption) (gn_str _) gb_str ?_) | (first | refine ldE (by assumption) (by ((repeat (first | assumption | exact upd_same | refine Eq.trans (upd_ne (by decide)) ?_)); all_goals rfl)) ?_ | refine biE (by assumption) (gn_map _) gb_map ?_ | refine biE (by assumption) (gn_str _) gb_str ?_)) | ((with_reducible show wpAny _ _ (getAttr (Value.type "str") _ _) _ _ _); first | with_reducible ((refine getA_type (v := .builtin "str.strip") (by assumption) type_of_str (by decide +kernel) (by kernel_rfl) rfl ?_)) | ((refine getA_type (v := .builtin "str.strip") (by assumption) type_of_str (by decide +kernel) (by kernel_rfl) rfl ?_))) | ((with_reducible show wpAny _ _ (call (Value.builtin "str.split") _ _) _ _ _); first | with_reducible ((refine split_In (by assumption) (by assumption) (by assumption) ?_; intro _ _ _ _ _ _ _)) | ((refine split_In (by assumption) (by assumption) (by assumption) ?_; intro _ _ _ _ _ _ _))) | ((with_reducible show wpAny _ _ _ _ _ _); walk1) | ((with_reducible show ite _ _ _); walk1)))
    rename_i s2 ls l I2 k2 e2 sh2
    refine wpAny_mono (lift0 fA (map_call w _ ls _ _ _ I2.ok (I2.has _ (.head _)).1)) (fun v s3 hv => ?_) (fun _ _ y => y)
    obtain ⟨mo, tu, it, rfl, k3, g3, o3, fm, ft, fi, em, et, ei⟩ := hv
    have I3 := I2.more (objs := [(it, { cls := .type "list_iterator", data := .fields #[.ref ls, .int 0 0] }), (mo, mapOb tu), (tu, tupObj #[.ref it])]) (I2.keep k3 g3 o3) fun p hp => by
      rcases List.mem_cons.mp hp with rfl | hp
      · exact ⟨ei, rfl, .inl fi⟩
      · rcases List.mem_cons.mp hp with rfl | hp
        · exact ⟨em, rfl, .inl fm⟩
        · rcases List.mem_cons.mp hp with rfl | hp
          · exact ⟨et, rfl, .inl ft⟩
          · cases hp
    have fi0 : s.heap.get? it = none := by
      cases q : s.heap.get? it with
      | none => rfl
      | some o => rw [k2 _ _ q] at fi; cases fi
    unfold notIterableAtAll
    refine wpAny_bind (wpAny_specialOf (T := "map") ⟨_, em, rfl⟩ map_iter ?_)
    rw [if_pos (by rfl)]
    refine wpAny_pure ⟨rfl, ?_⟩
    have small : l.length ≤ 1000 := by
      have := congrArg List.length e2
      rw [List.length_map] at this
      rcases shape with ⟨a, e⟩ | ⟨a, b, e⟩ <;> rw [e] at this <;> simp only [List.length_cons, List.length_nil] at this <;> omega
    refine collect_map (l := l) fA.hd I3 ⟨rfl, rfl⟩ (.head _) (.tail _ (.head _)) (.tail _ (.tail _ (.head _))) fi0 (fun p hp => ?_) (fun k => by simp [strValues]) (fun y hy => ?_) small fun s4 vs I4 P kp => ?_
    · rcases List.mem_cons.mp hp with rfl | hp
      · exact (show Value.type "map" ≠ .type "list_iterator" by decide)
      · rcases List.mem_cons.mp hp with rfl | hp
        · exact (show Value.type "tuple" ≠ .type "list_iterator" by decide)
        · rcases List.mem_cons.mp hp with rfl | hp
          · exact (show Value.type "list" ≠ .type "list_iterator" by decide)
          · cases hp
    · have := sh2 y.1 (List.mem_map_of_mem hy)
      rw [sizeLine_eq]; omega
    have kk : ∀ b o, s.heap.get? b = some o → s4.heap.get? b = some o := fun b o e => kp b o (fun q => by rw [q, fi0] at e; cases e) (k3 b o (k2 b o e))
    obtain ⟨kpr, _, lk⟩ := looks_keep (M := model PW w) (f := .ref 162) (by kernel_rfl) I4.ok.k
    refine ⟨kpr, lk, ?_⟩
    rcases shape with ⟨a, e⟩ | ⟨a, b, e⟩
    · rw [e] at e2
      obtain ⟨⟨a', ta⟩, rfl, ea⟩ := List.map_eq_singleton_iff.mp e2
      obtain rfl : a' = a := ea
      cases P with
      | cons hv1 P =>
        cases P
        refine wpC_call (cls_refuses (n := n + 1) fA I4.ok fun h' ex tt msg d k kpx mx => ?_)
        dsimp only
        obtain ⟨oL, es, ep, eL, dL, _⟩ := I4.ns
        refine wpAny_leaves_madeW (base := base) (h := s4.heap) (L := s.heap.objs.size) hAf rfl (fun b o eb => kk b o (hb b o eb)) ⟨hk', ⟨_, oL, rfl, hb.fresh, eL, fun vs q => by rw [dL] at q; cases q⟩, hfl.of_keeps fun b o eb _ => ⟨o, kk b o eb, rfl⟩⟩ ⟨mx.keeps, mx.new, mx.there⟩ fun h'' t FL _ _ up => ?_
        exact miss { heap := h'', gens := s4.gens, drawn := d, toks := k, os := s4.os } ex t a' e I4.gens I4.os FL ((Heap.UpToSlots.of_keeps kk).trans ((Heap.UpToSlots.of_keeps kpx).trans up))
    · rw [e] at e2
      obtain ⟨⟨a', ta⟩, l', rfl, ea, e2'⟩ := List.map_eq_cons_iff.mp e2
      obtain ⟨⟨b', tb⟩, rfl, eb⟩ := List.map_eq_singleton_iff.mp e2'
      obtain rfl : a' = a := ea
      obtain rfl : b' = b := eb
      cases P with
      | cons hv1 P =>
        cases P with
        | cons hv2 P =>
          cases P
          obtain ⟨t1, rfl⟩ := hv1
          obtain ⟨t2, rfl⟩ := hv2
          refine wpC_call (cls_news (n := n) fA I4.ok fun s5 p d k5 g5 o5 fp fd ep ed => ?_)
          dsimp only
          have none_of : ∀ q, s4.heap.get? q = none → s.heap.get? q = none := fun q hq => by
            cases z : s.heap.get? q with
            | none => rfl
            | some o => rw [kk _ _ z] at hq; cases hq
          exact hit s5 p d a' b' t1 t2 e (fun q o eq => k5 q o (kk q o eq)) (g5.trans I4.gens) (o5.trans I4.os) (none_of _ fp) (none_of _ fd) ep ed
end
end Mine

end
section
open PySem PySem.W PySem.W.X PyProof.Rows PySem.Calls
set_option maxRecDepth 100000
namespace Mine
-- the two code tables are empty yet
structure Tab (h : Heap) : Prop where
  a : h.get? 172 = some noTab
  b : h.get? 187 = some noTab
theorem Tab.keeps {h h' : Heap} (x : Tab h) (k : ∀ b o, h.get? b = some o → h'.get? b = some o) : Tab h' := ⟨k _ _ x.a, k _ _ x.b⟩
theorem Tab.but {h h' : Heap} {L : Addr} (x : Tab h) (hs : Heap.ExtBut L h h') (n : L ≠ 172 ∧ L ≠ 187) : Tab h' := ⟨hs _ _ n.1.symm x.a, hs _ _ n.2.symm x.b⟩
structure InT (w : World) (s₀ : Shared) (L : Addr) (m : LMap) (N : List (Addr × Obj)) (h : Heap) (g : Array GenState) (o : OsState) : Prop where
  i : In w s₀ L m N h g o
  t : Tab h
section
variable {w : World} {s₀ : Shared} {L a : Addr} {m m' : LMap} {N N' : List (Addr × Obj)} {h h' : Heap} {g : Array GenState} {os : OsState} {o o' : Obj}
theorem InT.mono (I : InT w s₀ L m N h g os) (x : ∀ p ∈ N', p ∈ N) : InT w s₀ L m N' h g os := ⟨I.i.mono x, I.t⟩
theorem InT.push (I : InT w s₀ L m N h g os) (hf : o.isFreed = false) (hc : hasCls o = true) : InT w s₀ L m ((h.objs.size, o) :: N) (h.push o) g os := ⟨I.i.push hf hc, I.t.keeps fun b o' e => Heap.get?_push_of_some _ e⟩
theorem InT.turn (I : InT w s₀ L m ((a, o) :: N) h g os) (fa : s₀.heap.get? a = none) (hs : Heap.SameBut a h h') (e : h'.get? a = some o') (hc : hasCls o' = true) (nc : o.cls ≠ .type "code") (dis : ∀ p ∈ N, p.2.cls ≠ o.cls) : InT w s₀ L m ((a, o') :: N) h' g os :=
  ⟨I.i.turn fa hs e hc nc dis, I.t.but hs.extBut (I.i.apart nc).1⟩
theorem InT.lose (I : InT w s₀ L m ((a, o) :: N) h g os) (fa : s₀.heap.get? a = none) (hs : Heap.ExtBut a h h') (nc : o.cls ≠ .type "code") (dis : ∀ p ∈ N, p.2.cls ≠ o.cls) : InT w s₀ L m N h' g os :=
  ⟨I.i.lose fa hs nc dis, I.t.but hs (I.i.apart nc).1⟩
theorem InT.set (I : InT w s₀ L m N h g os) (n : h'.Ns L m') (hs : Heap.SameBut L h h') : InT w s₀ L m' N h' g os := ⟨I.i.set n hs, I.t.but hs.extBut (I.i.ok.apart I.i.ns)⟩
theorem InT.reframe {dO : Obj} (I : InT w s₀ L m N h g os) (n : h'.Ns h.objs.size m') (hs : Heap.SameBut h.objs.size (h.push dO) h') : InT w s₀ h.objs.size m' N h' g os :=
  ⟨I.i.reframe n hs, I.t.keeps fun b _ e => (hs.2 b (Nat.ne_of_lt (Heap.lt_size e))).trans (Heap.get?_push_of_some _ e)⟩
theorem InT.keep {s s' : Shared} (I : InT w s₀ L m N s.heap s.gens s.os) (k : ∀ b o, s.heap.get? b = some o → s'.heap.get? b = some o) (g' : s'.gens = s.gens) (o' : s'.os = s.os) : InT w s₀ L m N s'.heap s'.gens s'.os := ⟨I.i.keep k g' o', I.t.keeps k⟩
end
section
variable {w : World} {A : Around} {M : Model} {E : Value → Shared → Prop} {s s₀ : Shared} {L a : Addr} {m : LMap} {N : List (Addr × Obj)} {env : Env} {its : Array Value} {n : Nat}
theorem ldT {x : Str} {pos : Pos} {v : Value} {Q : Value → Shared → Prop} (I : InT w s₀ env.locals m N s.heap s.gens s.os) (hv : m x = some v) (h : Q v s) (hk : env.scope.kind = .function := by rfl) (hl : env.kindOf x = some .local := by rfl)
    (hd : (x == ("__debug__" : Str)) = false := by decide) : wpAny M A (eval (.Name x pos) env) Q E s := ldE I.i hv h hk hl hd
theorem stT {x : Str} {v : Value} {Q : Unit → Shared → Prop} (I : InT w s₀ env.locals m N s.heap s.gens s.os) (h : ∀ s', InT w s₀ env.locals (upd m x v) N s'.heap s'.gens s'.os → Q () s')
    (hk : env.scope.kind = .function := by rfl) (hl : env.kindOf x = some .local := by rfl) : wpAny M A (storeName env x v) Q E s :=
  wpAny_storeName_local hl I.i.ns (fun h' hn hs => h { s with heap := h', toks := s.toks + 1 } (I.set hn hs)) (by rw [hk]; rfl)
theorem newListT {vs : List Value} {Q : Value → Shared → Prop} (I : InT w s₀ L m N s.heap s.gens s.os) (h : ∀ s' a, InT w s₀ L m ((a, listOf vs.toArray 0) :: N) s'.heap s'.gens s'.os → s₀.heap.get? a = none → Q (.ref a) s') (hsz : vs.length ≤ sizeLine := by size_fits) : wpAny M A (newList vs) Q E s :=
  wpAny_newObj_type (h { s with heap := s.heap.push (listOf vs.toArray 0) } _ (I.push rfl rfl) I.i.fresh_size) (by show vs.toArray.size ≤ sizeLine; rw [List.size_toArray]; exact hsz)
theorem newTupT {vs : List Value} {Q : Value → Shared → Prop} (I : InT w s₀ L m N s.heap s.gens s.os) (h : ∀ s' a, InT w s₀ L m ((a, tupObj vs.toArray) :: N) s'.heap s'.gens s'.os → s₀.heap.get? a = none → Q (.ref a) s') (hsz : vs.length ≤ sizeLine := by size_fits) : wpAny M A (newTuple vs) Q E s :=
  wpAny_newObj_type (h { s with heap := s.heap.push (tupObj vs.toArray) } _ (I.push rfl rfl) I.i.fresh_size) (by show vs.toArray.size ≤ sizeLine; rw [List.size_toArray]; exact hsz)
theorem appendT {x : Value} {Q : Value → Shared → Prop} (I : InT w s₀ L m ((a, listOf its n) :: N) s.heap s.gens s.os) (fa : s₀.heap.get? a = none) (dis : ∀ p ∈ N, p.2.cls ≠ .type "list")
    (h : ∀ s', InT w s₀ L m ((a, listOf (its.push x) (n + 1)) :: N) s'.heap s'.gens s'.os → Q .none s') (hsz : its.size ≤ sizeLine) : wpAny (model PW w) A (call (.builtin "list.append") [.ref a, x]) Q E s :=
  append_at (hsz := hsz) (I.i.has _ (.head _)).1 fun h' hs ho' => h { s with heap := h' } (I.turn fa hs ho' rfl (show Value.type "list" ≠ .type "code" by decide) dis)
theorem nextT {x left : Int} {it : Addr} {Q : Option Value → Shared → Prop} (I : InT w s₀ L m ((it, rgIt x left) :: N) s.heap s.gens s.os) (fi : s₀.heap.get? it = none) (dis : ∀ p ∈ N, p.2.cls ≠ .type "range_iterator") (hl : 0 < left)
    (h : ∀ s' tk, InT w s₀ L m ((it, rgIt (x + 1) (left - 1)) :: N) s'.heap s'.gens s'.os → Q (some (.int x tk)) s') : wpAny (model PW w) A (pyNext (.ref it)) Q E s :=
  wpAny_pyNext_range_item (I.i.has _ (.head _)).1 hl fun h' e hs => h { s with heap := h', toks := s.toks + 1 } _ (I.turn fi hs e rfl (show Value.type "range_iterator" ≠ .type "code" by decide) dis)
theorem iterT {l : Addr} {Q : Value → Shared → Prop} (I : InT w s₀ L m N s.heap s.gens s.os) (e : (l, listOf its n) ∈ N)
    (h : ∀ s' it o, LsIt l 0 o → InT w s₀ L m ((it, o) :: N) s'.heap s'.gens s'.os → s₀.heap.get? it = none → Q (.ref it) s') : wpAny (model PW w) A (pyIter (.ref l)) Q E s :=
  wpAny_pyIter_list (items := its) ⟨_, (I.i.has _ e).1, rfl, n, rfl⟩ (h { s with heap := _ } _ _ ⟨rfl, rfl⟩ (I.push rfl rfl) I.i.fresh_size)
theorem lsnextT {i : Nat} {it l : Addr} {o : Obj} {x : Value} {Q : Option Value → Shared → Prop} (I : InT w s₀ L m ((it, o) :: N) s.heap s.gens s.os) (ho : LsIt l i o) (fi : s₀.heap.get? it = none) (dis : ∀ p ∈ N, p.2.cls ≠ .type "list_iterator")
    (e : (l, listOf its n) ∈ N) (hx : its[i]? = some x) (h : ∀ s' o', LsIt l (i + 1) o' → InT w s₀ L m ((it, o') :: N) s'.heap s'.gens s'.os → Q (some x) s') : wpAny (model PW w) A (pyNext (.ref it)) Q E s :=
  wpAny_pyNext_list_item (items := its) ⟨_, (I.i.has _ (.head _)).1, ho.1, ho.2⟩ ⟨_, (I.i.has _ (.tail _ e)).1, rfl, n, rfl⟩ hx fun h' hit hs => by
    obtain ⟨o', e', c', d'⟩ := hit
    have y : LsIt l (i + 1) o' := ⟨c', d'⟩
    exact h { s with heap := h' } o' y (I.turn fi hs e' y.cls (by rw [ho.1]; decide) (fun p hp => by rw [ho.1]; exact dis p hp))
theorem lsendT {i : Nat} {it l : Addr} {o : Obj} {Q : Option Value → Shared → Prop} (I : InT w s₀ L m ((it, o) :: N) s.heap s.gens s.os) (ho : LsIt l i o) (fi : s₀.heap.get? it = none) (dis : ∀ p ∈ N, p.2.cls ≠ .type "list_iterator") (hh : A.handled = none)
    (e : (l, listOf its n) ∈ N) (hx : its[i]? = none) (h : ∀ s', InT w s₀ L m N s'.heap s'.gens s'.os → Q none s') : wpAny (model PW w) A (pyNext (.ref it)) Q E s :=
  wpAny_pyNext_list_end hh (items := its) ⟨_, (I.i.has _ (.head _)).1, ho.1, ho.2⟩ ⟨_, (I.i.has _ (.tail _ e)).1, rfl, n, rfl⟩ hx fun h' he => h { s with heap := h' } (I.lose fi he (by rw [ho.1]; decide) (fun p hp => by rw [ho.1]; exact dis p hp))
end
end Mine

end
section
open PySem PySem.W PySem.W.X PyProof.Rows PySem.Calls
set_option maxRecDepth 100000
namespace Mine
-- a heap less one object
noncomputable def without (h : Heap) (L : Addr) : Heap := h.update L fun o => { o with data := .freed }
theorem without_ne {h : Heap} {L b : Addr} (n : b ≠ L) : (without h L).get? b = h.get? b := Heap.get?_update_other _ _ (Ne.symm n)
theorem without_self {h : Heap} {L : Addr} : (without h L).get? L = none := by
  obtain ⟨objs, life⟩ := h
  unfold without Heap.update Heap.get?
  dsimp only
  rw [Array.getElem?_modify, if_pos rfl]
  cases objs[L]? with
  | none => rfl
  | some o => rfl
theorem without_some {h : Heap} {L b : Addr} {o : Obj} (e : (without h L).get? b = some o) : b ≠ L ∧ h.get? b = some o := by
  have n : b ≠ L := fun q => by rw [q, without_self] at e; cases e
  exact ⟨n, (without_ne n).symm.trans e⟩
section
variable {w : World} {s : Shared} {L Ll : Addr} {m mL : LMap} {N : List (Addr × Obj)} {h h' : Heap} {g : Array GenState} {os : OsState}
theorem InT.rebase (I : InT w s L m N h g os) (tab : Tab s.heap) (nL : Ll ≠ 172 ∧ Ll ≠ 187) (kL : ∀ a o, (K w.params).lookup a = some o → a ≠ Ll) (k0 : (0 : Addr) ≠ Ll) : InT w { s with heap := without s.heap Ll } L m N h g os := by
  have sub : ∀ b o, (without s.heap Ll).get? b = some o → s.heap.get? b = some o := fun b o e => (without_some e).2
  refine ⟨⟨I.i.ns, ?_, ⟨fun a o l => (without_ne (kL a o l)).trans (I.i.ok₀.k a o l), .inl ((without_ne nL.1.symm).trans tab.a), ⟨_, (without_ne nL.2.symm).trans tab.b⟩, I.i.ok₀.b.at fun _ e => (without_ne k0).trans e⟩, fun b o c e => I.i.ext b o c (sub b o e), fun b o e => I.i.there b o (sub b o e), I.i.gens, I.i.os, I.i.ok, I.i.has⟩, I.t⟩
  cases q : (without s.heap Ll).get? L with
  | none => rfl
  | some o => have := sub _ _ q; rw [I.i.fresh] at this; cases this
theorem InT.land {s0 : Shared} (I : InT w s0 L m N h g os) (nL : Ll ≠ 172 ∧ Ll ≠ 187) (kL : ∀ a o, (K w.params).lookup a = some o → a ≠ Ll) (k0 : (0 : Addr) ≠ Ll) (f0 : s0.heap.get? Ll = none) (hN : ∀ p ∈ N, p.1 ≠ Ll) (st : (without (without h L) Ll).StaysIn h') (up : h.UpToSlots h') : InT w s0 L m N h' g os := by
  have k : ∀ b o, b ≠ L → b ≠ Ll → h.get? b = some o → h'.get? b = some o := fun b o n1 n2 e => st b o ((without_ne n2).trans ((without_ne n1).trans e))
  have n0 : ∀ b o, s0.heap.get? b = some o → b ≠ L ∧ b ≠ Ll := fun b o e => ⟨(fun q => by rw [q, I.i.fresh] at e; cases e), (fun q => by rw [q, f0] at e; cases e)⟩
  have lT := I.i.ok.apart I.i.ns
  have tab : Tab h' := ⟨k _ _ lT.1.symm nL.1.symm I.t.a, k _ _ lT.2.symm nL.2.symm I.t.b⟩
  exact ⟨⟨up.ns I.i.ns, I.i.fresh, I.i.ok₀, fun b o c e => k b o (n0 b o e).1 (n0 b o e).2 (I.i.ext b o c e), fun b o e => let ⟨o', e'⟩ := I.i.there b o e; ⟨o', k b o' (n0 b o e).1 (n0 b o e).2 e'⟩, I.i.gens, I.i.os,
    ⟨fun a o l => k a o (I.i.kne a o l) (kL a o l) (I.i.ok.k a o l), .inl tab.a, ⟨_, tab.b⟩, I.i.ok.b.at fun _ e => k _ _ I.i.k0 k0 e⟩, fun p hp => ⟨k _ _ (I.i.has p hp).2.1 (hN p hp) (I.i.has p hp).1, (I.i.has p hp).2⟩⟩, tab⟩
theorem looks_method {M : Model} {q f : Addr} {self : Value} {c : Value} {d : Option Addr} {fd : FuncData} {sl : Array (Option Value)} (hq : h.get? q = some (methodObj (.ref f) self)) (hf : h.get? f = some ⟨c, d, .func fd, sl⟩) : Looks M h (keeperOf (.ref q)) .boundFrame :=
  (Looks.ld (part := none) hq).andThen ((Looks.ld (part := none) hf).andThen .now)
end
theorem attr_nameT {w : World} {A : Around} {E : Value → Shared → Prop} {s s₀ : Shared} {L : Addr} {m : LMap} {N : List (Addr × Obj)} {n : Nat} {p d : Addr} {a b : Str} {ta tb : Tok} {expr : Bool} {Q : Value → Shared → Prop} (fit : Fit (n + 2) A) (I : InT w s₀ L m N s.heap s.gens s.os) (hp : (p, pairOb d a b ta tb) ∈ N) (hd : (d, noDict) ∈ N)
    (h : ∀ s', InT w s₀ L m N s'.heap s'.gens s'.os → Q (.str a ta) s') : wpAny (model PW w) A (getAttr (.ref p) ("name" : Str) expr) Q E s := attr_name fit I.i hp hd fun s' k g o => h s' (I.keep k g o)
theorem attr_valueT {w : World} {A : Around} {E : Value → Shared → Prop} {s s₀ : Shared} {L : Addr} {m : LMap} {N : List (Addr × Obj)} {n : Nat} {p d : Addr} {a b : Str} {ta tb : Tok} {expr : Bool} {Q : Value → Shared → Prop} (fit : Fit (n + 2) A) (I : InT w s₀ L m N s.heap s.gens s.os) (hp : (p, pairOb d a b ta tb) ∈ N) (hd : (d, noDict) ∈ N)
    (h : ∀ s', InT w s₀ L m N s'.heap s'.gens s'.os → Q (.str b tb) s') : wpAny (model PW w) A (getAttr (.ref p) ("value" : Str) expr) Q E s := attr_value fit I.i hp hd fun s' k g o => h s' (I.keep k g o)
theorem rangeT1 {w : World} {A : Around} {E : Value → Shared → Prop} {s s₀ : Shared} {L : Addr} {m : LMap} {N : List (Addr × Obj)} {b : Int} {u : Tok} {Q : Value → Shared → Prop} (I : InT w s₀ L m N s.heap s.gens s.os) (hab : 0 ≤ b) (hb : b < 2 ^ 62)
    (h : ∀ s' it, InT w s₀ L m ((it, rgIt 0 b) :: N) s'.heap s'.gens s'.os → s₀.heap.get? it = none → Q (.ref it) s') :
    wpAny (model PW w) A (call (.type "range") [.int b u]) (fun x s₁ => wpAny (model PW w) A (pyIter x) Q E s₁) E s := by
  refine call_range_1 ?_
  have I1 := I.push (o := { cls := .type "range", data := .fields #[.int 0 s.toks, .int b u, .int 1 (s.toks + 1)] }) rfl rfl
  have hr : Builtin.Range.rangeSize 0 b 1 = b := by rw [rangeSize_one]; split <;> omega
  refine wpAny_pyIter_range (IsRange.new s.heap 0 b 1 s.toks u (s.toks + 1)) (small_one (by decide) (by omega) (by omega) hb) ?_
  rw [hr]
  have I2 := I1.push (o := rgIt 0 b) rfl rfl
  exact h { s with heap := _, toks := s.toks + 1 + 1 } _ (I2.mono fun p hp => by
    rcases List.mem_cons.mp hp with rfl | hp
    · exact .head _
    · exact .tail _ (.tail _ hp)) I1.i.fresh_size
theorem evalArgs_1 {M : Model} {A : Around} {E : Value → Shared → Prop} {s : Shared} {env : Env} {f : Value} {e : Expr} {pos : Pos} {Q : Args → Shared → Prop} (he : starEach [e] env = [(false, eval e env)]) (h : wpAny M A (eval e env) (fun v s₁ => Q ⟨[v], []⟩ s₁) E s) :
    wpAny M A (evalArgs f true (backTo pos (starEach [e] env)) (backToKw pos (keywordEach [] env))) Q E s := by
  rw [he]
  exact evalArgs_plain (spliced_cons (wpAny_mono h (fun v s₁ y => spliced_nil y) fun _ _ y => y))
theorem SpansOk.push {T : List (Addr × Obj)} {l : List (Nat × Nat)} {sv : Array Value} {a : Addr} {f b : Nat} {tf tb : Tok} (h : SpansOk T l sv) : SpansOk ((a, tupObj #[.int f tf, .int b tb]) :: T) (l ++ [(f, b)]) (sv.push (.ref a)) := by
  refine ⟨by rw [Array.size_push, h.size, List.length_append]; rfl, fun k f' b' e => ?_, fun p hp => ?_⟩
  · rw [List.getElem?_append] at e
    split at e
    · rename_i lt
      obtain ⟨p, tf', tb', e1, e2⟩ := h.at' k f' b' e
      refine ⟨p, tf', tb', ?_, .tail _ e2⟩
      rw [Array.getElem?_push, if_neg (by rw [h.size]; omega)]; exact e1
    · rename_i ge
      have hk : k = l.length := by
        rcases Nat.lt_or_ge (k - l.length) 1 with q | q
        · omega
        · rw [List.getElem?_eq_none (by simpa using q)] at e; cases e
      subst hk
      rw [Nat.sub_self] at e
      cases e
      exact ⟨a, tf, tb, by rw [Array.getElem?_push, if_pos h.size.symm], .head _⟩
  · rcases List.mem_cons.mp hp with rfl | hp
    · rfl
    · exact h.tup p hp
noncomputable abbrev SpInv (w : World) (s0 : Shared) (L sa it : Addr) (t : Str) (k : Nat) (h : Heap) (g : Array GenState) (o : OsState) : Prop := (∃ m T sv c b l tt tr, InT w s0 L m ((it, rgIt (k : Int) ((t.length : Int) + 1 - k)) :: (sa, listOf sv c) :: T) h g o ∧ m ("text" : Str) = some (.str t tt) ∧ m ("spans" : Str) = some (.ref sa) ∧ m ("rest" : Str) = some (.str (Builtin.Str.strSub t b t.length) tr) ∧
    SpansOk T l sv ∧ (∀ tail, Chain t b tail → Chain t 0 (l ++ tail)) ∧ b ≤ t.length ∧ (b = t.length ∨ ch t b ≠ 32) ∧ k ≤ b ∧ l.length ≤ b ∧ ∀ p ∈ T, s0.heap.get? p.1 = none)
section
set_option maxHeartbeats 4000000 in
theorem spans_code {A : Around} {n : Nat} (fit : Fit (n + 4) A) (lawEnv : Env) (Ll : Addr) (hfr : A.frames = some [lawEnv]) (hlf : lawEnv.frame = some Ll) (hlk : lawEnv.scope.kind ≠ .module) (w : World) (s : Shared) (t : Str) (tt : Tok) (ok : Ok w s.heap) (tab : Tab s.heap) (mL : LMap) (nsL : s.heap.Ns Ll mL)
    (kL : ∀ a o, (K w.params).lookup a = some o → a ≠ Ll) (k0L : (0 : Addr) ≠ Ll) (g : Good t) (R : Result → Shared → Prop)
    (hR : ∀ s' sa sv c T l, (∀ b o, b ≠ Ll → s.heap.get? b = some o → s'.heap.get? b = some o) → s'.heap.Ns Ll mL → s'.gens = s.gens → s'.os = s.os → s'.heap.get? sa = some (listOf sv c) → (∀ p ∈ T, s'.heap.get? p.1 = some p.2 ∧ hasCls p.2 = true) → SpansOk T l sv → Chain t 0 l → sa ≠ Ll → (∀ p ∈ T, p.1 ≠ Ll) → R (.ok (.ret (.ref sa))) s') :
    codeC (model PW w) A (.call (.ref 199) ⟨[.str t tt], []⟩) R s := by
  have nL : Ll ≠ 172 ∧ Ll ≠ 187 := ok.apart nsL
  have hsm := g.small
  have hn : t.length ≤ 1048576 := by omega
  refine' enterC (name := "_law_spans") (qual := "_law_spans") (params := parsOf 12) (body := _) (scope := _) (dV := .none) (kV := .none) (doc := .none) (pm := .str "law_il0124_01" 422) (cdv := .ref 198) (ct := .none) (an := none) (od := none)
    (binds := [("text", .str t tt)]) fit ok ?hl ?hcd ?hb ?hloc ?hcell ?h ?h1 ?h2 ?h3
  case hl => exact (by kernel_rfl : (K w.params).lookup 199 = some { cls := .type "function", data := .func (fnOf "_law_spans" "_law_spans" (parsOf 12) (bodyOf 12) (scopeOf 12) .none .none .none (.str "law_il0124_01" 422) none (.ref 198) .none) })
  case hcd => kernel_rfl
  case hloc => rfl
  case hcell => decide
  case h1 => rfl
  case h2 => rfl
  case h3 => rfl
  case hb => exact BindsTo.of_eq rfl
  case h =>
    intro s1 I0 k1
    have I1 : InT w s _ _ _ _ _ _ := ⟨I0, tab.keeps k1⟩
    clear I0
    generalize hB : bodyOf 12 = B
    generalize hS : scopeOf 12 = S
    conv at hB => lhs; whnf
    conv at hS => lhs; whnf
    subst hB hS
    generalize hE : envOf _ _ _ 199 _ = env'
    have hAf : (A.deeper env').frames = some [env', lawEnv] := by
      show pushEnvs [env'] A.frames = _
      rw [hfr]; rfl
    have fA : Fit (n + 3) (A.deeper env') := fit.deeper
    generalize hA : A.deeper env' = A' at *
    subst hE
    refine C_execs (wpC_any ?_)
    (repeat' (first | ((with_reducible show wpAny _ _ (eval (Expr.Name _ _) _) _ _ _); first | with_reducible (first | refine ldT (by assumption) (by ((repeat (first | assumption | exact upd_same | refine Eq.trans (upd_ne (by decide)) ?_)); all_goals rfl)) ?_ | refine biE (InT.i (by assumption)) (gn_len _) gb_len ?_ | refine biE (InT.i (by assumption)) (gn_range _) gb_range ?_ | refine glE (InT.i (by assumption)) (g_Pair _) ?_) | (first | refine ldT (by assumption) (by ((repeat (first | assumption | exact upd_same | refine Eq.trans (upd_ne (by decide)) ?_)); all_goals rfl)) ?_ | refine biE (InT.i (by assumption)) (gn_len _) gb_len ?_ | refine biE (InT.i (by assumption)) (gn_range _) gb_range ?_ | refine glE (InT.i (by assumption)) (g_Pair _) ?_)) | ((with_reducible show wpAny _ _ (storeName _ _ _) _ _ _); first | with_reducible ((refine stT (by assumption) ?_; intro _ _)) | ((refine stT (by assumption) ?_; intro _ _))) | ((with_reducible show wpAny _ _ (newList _) _ _ _); first | with_reducible ((refine newListT (by assumption) ?_; intro _ _ _ _)) | ((refine newListT (by assumption) ?_; intro _ _ _ _))) | ((with_reducible show wpAny _ _ (newTuple _) _ _ _); first | with_reducible ((refine newTupT (by assumption) ?_; intro _ _ _ _)) | ((refine newTupT (by assumption) ?_; intro _ _ _ _))) | ((with_reducible show wpAny _ _ (getMethod (Value.ref _) _ _) _ _ _); first | with_reducible (refine getm_append (InT.i (by assumption)) (by (repeat (first | exact List.Mem.head _ | refine List.Mem.tail _ ?_))) ?_) | (refine getm_append (InT.i (by assumption)) (by (repeat (first | exact List.Mem.head _ | refine List.Mem.tail _ ?_))) ?_)) | ((with_reducible show wpAny _ _ (getAttr (Value.ref _) _ _) _ _ _); first | with_reducible (first | ((with_reducible show wpAny _ _ (getAttr _ (Str.ofString "name") _) _ _ _); refine attr_nameT (by assumption) (by assumption) (by (repeat (first | exact List.Mem.head _ | refine List.Mem.tail _ ?_))) (by (repeat (first | exact List.Mem.head _ | refine List.Mem.tail _ ?_))) ?_; intro _ _) | ((with_reducible show wpAny _ _ (getAttr _ (Str.ofString "value") _) _ _ _); refine attr_valueT (by assumption) (by assumption) (by (repeat (first | exact List.Mem.head _ | refine List.Mem.tail _ ?_))) (by (repeat (first | exact List.Mem.head _ | refine List.Mem.tail _ ?_))) ?_; intro _ _)) | (first | ((with_reducible show wpAny _ _ (getAttr _ (Str.ofString "name") _) _ _ _); refine attr_nameT (by assumption) (by assumption) (by (repeat (first | exact List.Mem.head _ | refine List.Mem.tail _ ?_))) (by (repeat (first | exact List.Mem.head _ | refine List.Mem.tail _ ?_))) ?_; intro _ _) | ((with_reducible show wpAny _ _ (getAttr _ (Str.ofString "value") _) _ _ _); refine attr_valueT (by assumption) (by assumption) (by (repeat (first | exact List.Mem.head _ | refine List.Mem.tail _ ?_))) (by (repeat (first | exact List.Mem.head _ | refine List.Mem.tail _ ?_))) ?_; intro _ _))) | ((with_reducible show wpAny _ _ _ _ _ _); walk1) | ((with_reducible show ite _ _ _); walk1)))
    rename_i s2 sa I2 frs s3 I3
    refine C_execs (wpC_any ?_)
    (repeat' (first | ((with_reducible show wpAny _ _ (eval (Expr.Name _ _) _) _ _ _); first | with_reducible (first | refine ldT (by assumption) (by ((repeat (first | assumption | exact upd_same | refine Eq.trans (upd_ne (by decide)) ?_)); all_goals rfl)) ?_ | refine biE (InT.i (by assumption)) (gn_len _) gb_len ?_ | refine biE (InT.i (by assumption)) (gn_range _) gb_range ?_ | refine glE (InT.i (by assumption)) (g_Pair _) ?_) | (first | refine ldT (by assumption) (by ((repeat (first | assumption | exact upd_same | refine Eq.trans (upd_ne (by decide)) ?_)); all_goals rfl)) ?_ | refine biE (InT.i (by assumption)) (gn_len _) gb_len ?_ | refine biE (InT.i (by assumption)) (gn_range _) gb_range ?_ | refine glE (InT.i (by assumption)) (g_Pair _) ?_)) | ((with_reducible show wpAny _ _ (storeName _ _ _) _ _ _); first | with_reducible ((refine stT (by assumption) ?_; intro _ _)) | ((refine stT (by assumption) ?_; intro _ _))) | ((with_reducible show wpAny _ _ (newList _) _ _ _); first | with_reducible ((refine newListT (by assumption) ?_; intro _ _ _ _)) | ((refine newListT (by assumption) ?_; intro _ _ _ _))) | ((with_reducible show wpAny _ _ (newTuple _) _ _ _); first | with_reducible ((refine newTupT (by assumption) ?_; intro _ _ _ _)) | ((refine newTupT (by assumption) ?_; intro _ _ _ _))) | ((with_reducible show wpAny _ _ (getMethod (Value.ref _) _ _) _ _ _); first | with_reducible (refine getm_append (InT.i (by assumption)) (by (repeat (first | exact List.Mem.head _ | refine List.Mem.tail _ ?_))) ?_) | (refine getm_append (InT.i (by assumption)) (by (repeat (first | exact List.Mem.head _ | refine List.Mem.tail _ ?_))) ?_)) | ((with_reducible show wpAny _ _ (getAttr (Value.ref _) _ _) _ _ _); first | with_reducible (first | ((with_reducible show wpAny _ _ (getAttr _ (Str.ofString "name") _) _ _ _); refine attr_nameT (by assumption) (by assumption) (by (repeat (first | exact List.Mem.head _ | refine List.Mem.tail _ ?_))) (by (repeat (first | exact List.Mem.head _ | refine List.Mem.tail _ ?_))) ?_; intro _ _) | ((with_reducible show wpAny _ _ (getAttr _ (Str.ofString "value") _) _ _ _); refine attr_valueT (by assumption) (by assumption) (by (repeat (first | exact List.Mem.head _ | refine List.Mem.tail _ ?_))) (by (repeat (first | exact List.Mem.head _ | refine List.Mem.tail _ ?_))) ?_; intro _ _)) | (first | ((with_reducible show wpAny _ _ (getAttr _ (Str.ofString "name") _) _ _ _); refine attr_nameT (by assumption) (by assumption) (by (repeat (first | exact List.Mem.head _ | refine List.Mem.tail _ ?_))) (by (repeat (first | exact List.Mem.head _ | refine List.Mem.tail _ ?_))) ?_; intro _ _) | ((with_reducible show wpAny _ _ (getAttr _ (Str.ofString "value") _) _ _ _); refine attr_valueT (by assumption) (by assumption) (by (repeat (first | exact List.Mem.head _ | refine List.Mem.tail _ ?_))) (by (repeat (first | exact List.Mem.head _ | refine List.Mem.tail _ ?_))) ?_; intro _ _))) | ((with_reducible show wpAny _ _ _ _ _ _); walk1) | ((with_reducible show ite _ _ _); walk1)))
    rename_i s4 I4
    refine C_execs (C_For ?_ (fun _ => rfl))
    (repeat' (first | ((with_reducible show wpAny _ _ (eval (Expr.Name _ _) _) _ _ _); first | with_reducible (first | refine ldT (by assumption) (by ((repeat (first | assumption | exact upd_same | refine Eq.trans (upd_ne (by decide)) ?_)); all_goals rfl)) ?_ | refine biE (InT.i (by assumption)) (gn_len _) gb_len ?_ | refine biE (InT.i (by assumption)) (gn_range _) gb_range ?_ | refine glE (InT.i (by assumption)) (g_Pair _) ?_) | (first | refine ldT (by assumption) (by ((repeat (first | assumption | exact upd_same | refine Eq.trans (upd_ne (by decide)) ?_)); all_goals rfl)) ?_ | refine biE (InT.i (by assumption)) (gn_len _) gb_len ?_ | refine biE (InT.i (by assumption)) (gn_range _) gb_range ?_ | refine glE (InT.i (by assumption)) (g_Pair _) ?_)) | ((with_reducible show wpAny _ _ (storeName _ _ _) _ _ _); first | with_reducible ((refine stT (by assumption) ?_; intro _ _)) | ((refine stT (by assumption) ?_; intro _ _))) | ((with_reducible show wpAny _ _ (newList _) _ _ _); first | with_reducible ((refine newListT (by assumption) ?_; intro _ _ _ _)) | ((refine newListT (by assumption) ?_; intro _ _ _ _))) | ((with_reducible show wpAny _ _ (newTuple _) _ _ _); first | with_reducible ((refine newTupT (by assumption) ?_; intro _ _ _ _)) | ((refine newTupT (by assumption) ?_; intro _ _ _ _))) | ((with_reducible show wpAny _ _ (getMethod (Value.ref _) _ _) _ _ _); first | with_reducible (refine getm_append (InT.i (by assumption)) (by (repeat (first | exact List.Mem.head _ | refine List.Mem.tail _ ?_))) ?_) | (refine getm_append (InT.i (by assumption)) (by (repeat (first | exact List.Mem.head _ | refine List.Mem.tail _ ?_))) ?_)) | ((with_reducible show wpAny _ _ (getAttr (Value.ref _) _ _) _ _ _); first | with_reducible (first | ((with_reducible show wpAny _ _ (getAttr _ (Str.ofString "name") _) _ _ _); refine attr_nameT (by assumption) (by assumption) (by (repeat (first | exact List.Mem.head _ | refine List.Mem.tail _ ?_))) (by (repeat (first | exact List.Mem.head _ | refine List.Mem.tail _ ?_))) ?_; intro _ _) | ((with_reducible show wpAny _ _ (getAttr _ (Str.ofString "value") _) _ _ _); refine attr_valueT (by assumption) (by assumption) (by (repeat (first | exact List.Mem.head _ | refine List.Mem.tail _ ?_))) (by (repeat (first | exact List.Mem.head _ | refine List.Mem.tail _ ?_))) ?_; intro _ _)) | (first | ((with_reducible show wpAny _ _ (getAttr _ (Str.ofString "name") _) _ _ _); refine attr_nameT (by assumption) (by assumption) (by (repeat (first | exact List.Mem.head _ | refine List.Mem.tail _ ?_))) (by (repeat (first | exact List.Mem.head _ | refine List.Mem.tail _ ?_))) ?_; intro _ _) | ((with_reducible show wpAny _ _ (getAttr _ (Str.ofString "value") _) _ _ _); refine attr_valueT (by assumption) (by assumption) (by (repeat (first | exact List.Mem.head _ | refine List.Mem.tail _ ?_))) (by (repeat (first | exact List.Mem.head _ | refine List.Mem.tail _ ?_))) ?_; intro _ _))) | ((with_reducible show wpAny _ _ _ _ _ _); walk1) | ((with_reducible show ite _ _ _); walk1)))
    refine rangeT1 (b := (t.length : Int) + 1) I4 (by omega) (by omega) fun s5 it I5 fit5 => ?_
    have wh : Builtin.Str.strSub t 0 t.length = t := strSub_whole t
    refine C_forLoop (I := fun k s' => ∃ i, k = t.length + 1 - i ∧ SpInv w s s.heap.objs.size sa it t i s'.heap s'.gens s'.os) ?turn (t.length + 1) ?init (fun _ => rfl)
    case init =>
      refine ⟨0, rfl, ⟨_, [], #[], 0, 0, [], tt, tt, I5.mono fun p hp => ?_, by ((repeat (first | assumption | exact upd_same | refine Eq.trans (upd_ne (by decide)) ?_)); all_goals rfl), by ((repeat (first | assumption | exact upd_same | refine Eq.trans (upd_ne (by decide)) ?_)); all_goals rfl), by rw [wh]; ((repeat (first | assumption | exact upd_same | refine Eq.trans (upd_ne (by decide)) ?_)); all_goals rfl), ⟨rfl, (fun _ _ _ e => nomatch e), (fun _ hp => nomatch hp)⟩, (fun tail h => h), Nat.zero_le _, .inr (by rw [g.first]; decide), Nat.le_refl _, Nat.le_refl _, (fun _ hp => nomatch hp)⟩⟩
      rcases List.mem_cons.mp hp with rfl | hp
      · have : rgIt ((0 : Nat) : Int) ((t.length : Int) + 1 - ((0 : Nat) : Int)) = rgIt 0 ((t.length : Int) + 1) := by
          rw [show ((0 : Nat) : Int) = 0 by rfl, show (t.length : Int) + 1 - 0 = (t.length : Int) + 1 by omega]
        rw [this]; exact .head _
      · exact .tail _ hp
    case turn =>
      clear I5 I4 I3 I2 I1
      rintro k s6 ⟨i, rfl, ⟨m, T, sv, c, b, l, tt', tr, I, g1, g2, g3, hS, hpre, hb, hbs, hib, hlb, hTf⟩⟩
      have dis : ∀ p ∈ (sa, listOf sv c) :: T, p.2.cls ≠ .type "range_iterator" := fun p hp => by
        rcases List.mem_cons.mp hp with rfl | hp
        · exact (show Value.type "list" ≠ .type "range_iterator" by decide)
        · rw [hS.tup p hp]; decide
      refine nextT I fit5 dis (by omega) fun s7 tk I7 => ?_
      dsimp only
      clear I
      (repeat' (first | ((with_reducible show wpAny _ _ (eval (Expr.Name _ _) _) _ _ _); first | with_reducible (first | refine ldT (by assumption) (by ((repeat (first | assumption | exact upd_same | refine Eq.trans (upd_ne (by decide)) ?_)); all_goals rfl)) ?_ | refine biE (InT.i (by assumption)) (gn_len _) gb_len ?_ | refine biE (InT.i (by assumption)) (gn_range _) gb_range ?_ | refine glE (InT.i (by assumption)) (g_Pair _) ?_) | (first | refine ldT (by assumption) (by ((repeat (first | assumption | exact upd_same | refine Eq.trans (upd_ne (by decide)) ?_)); all_goals rfl)) ?_ | refine biE (InT.i (by assumption)) (gn_len _) gb_len ?_ | refine biE (InT.i (by assumption)) (gn_range _) gb_range ?_ | refine glE (InT.i (by assumption)) (g_Pair _) ?_)) | ((with_reducible show wpAny _ _ (storeName _ _ _) _ _ _); first | with_reducible ((refine stT (by assumption) ?_; intro _ _)) | ((refine stT (by assumption) ?_; intro _ _))) | ((with_reducible show wpAny _ _ (newList _) _ _ _); first | with_reducible ((refine newListT (by assumption) ?_; intro _ _ _ _)) | ((refine newListT (by assumption) ?_; intro _ _ _ _))) | ((with_reducible show wpAny _ _ (newTuple _) _ _ _); first | with_reducible ((refine newTupT (by assumption) ?_; intro _ _ _ _)) | ((refine newTupT (by assumption) ?_; intro _ _ _ _))) | ((with_reducible show wpAny _ _ (getMethod (Value.ref _) _ _) _ _ _); first | with_reducible (refine getm_append (InT.i (by assumption)) (by (repeat (first | exact List.Mem.head _ | refine List.Mem.tail _ ?_))) ?_) | (refine getm_append (InT.i (by assumption)) (by (repeat (first | exact List.Mem.head _ | refine List.Mem.tail _ ?_))) ?_)) | ((with_reducible show wpAny _ _ (getAttr (Value.ref _) _ _) _ _ _); first | with_reducible (first | ((with_reducible show wpAny _ _ (getAttr _ (Str.ofString "name") _) _ _ _); refine attr_nameT (by assumption) (by assumption) (by (repeat (first | exact List.Mem.head _ | refine List.Mem.tail _ ?_))) (by (repeat (first | exact List.Mem.head _ | refine List.Mem.tail _ ?_))) ?_; intro _ _) | ((with_reducible show wpAny _ _ (getAttr _ (Str.ofString "value") _) _ _ _); refine attr_valueT (by assumption) (by assumption) (by (repeat (first | exact List.Mem.head _ | refine List.Mem.tail _ ?_))) (by (repeat (first | exact List.Mem.head _ | refine List.Mem.tail _ ?_))) ?_; intro _ _)) | (first | ((with_reducible show wpAny _ _ (getAttr _ (Str.ofString "name") _) _ _ _); refine attr_nameT (by assumption) (by assumption) (by (repeat (first | exact List.Mem.head _ | refine List.Mem.tail _ ?_))) (by (repeat (first | exact List.Mem.head _ | refine List.Mem.tail _ ?_))) ?_; intro _ _) | ((with_reducible show wpAny _ _ (getAttr _ (Str.ofString "value") _) _ _ _); refine attr_valueT (by assumption) (by assumption) (by (repeat (first | exact List.Mem.head _ | refine List.Mem.tail _ ?_))) (by (repeat (first | exact List.Mem.head _ | refine List.Mem.tail _ ?_))) ?_; intro _ _))) | ((with_reducible show wpAny _ _ _ _ _ _); walk1) | ((with_reducible show ite _ _ _); walk1)))
      rename_i s8 I8
      refine C_execs (C_Try (C_execs (C_AssignName rfl (C_CallAttr rfl ?_ rfl rfl))))
      (repeat' (first | ((with_reducible show wpAny _ _ (eval (Expr.Name _ _) _) _ _ _); first | with_reducible (first | refine ldT (by assumption) (by ((repeat (first | assumption | exact upd_same | refine Eq.trans (upd_ne (by decide)) ?_)); all_goals rfl)) ?_ | refine biE (InT.i (by assumption)) (gn_len _) gb_len ?_ | refine biE (InT.i (by assumption)) (gn_range _) gb_range ?_ | refine glE (InT.i (by assumption)) (g_Pair _) ?_) | (first | refine ldT (by assumption) (by ((repeat (first | assumption | exact upd_same | refine Eq.trans (upd_ne (by decide)) ?_)); all_goals rfl)) ?_ | refine biE (InT.i (by assumption)) (gn_len _) gb_len ?_ | refine biE (InT.i (by assumption)) (gn_range _) gb_range ?_ | refine glE (InT.i (by assumption)) (g_Pair _) ?_)) | ((with_reducible show wpAny _ _ (storeName _ _ _) _ _ _); first | with_reducible ((refine stT (by assumption) ?_; intro _ _)) | ((refine stT (by assumption) ?_; intro _ _))) | ((with_reducible show wpAny _ _ (newList _) _ _ _); first | with_reducible ((refine newListT (by assumption) ?_; intro _ _ _ _)) | ((refine newListT (by assumption) ?_; intro _ _ _ _))) | ((with_reducible show wpAny _ _ (newTuple _) _ _ _); first | with_reducible ((refine newTupT (by assumption) ?_; intro _ _ _ _)) | ((refine newTupT (by assumption) ?_; intro _ _ _ _))) | ((with_reducible show wpAny _ _ (getMethod (Value.ref _) _ _) _ _ _); first | with_reducible (refine getm_append (InT.i (by assumption)) (by (repeat (first | exact List.Mem.head _ | refine List.Mem.tail _ ?_))) ?_) | (refine getm_append (InT.i (by assumption)) (by (repeat (first | exact List.Mem.head _ | refine List.Mem.tail _ ?_))) ?_)) | ((with_reducible show wpAny _ _ (getAttr (Value.ref _) _ _) _ _ _); first | with_reducible (first | ((with_reducible show wpAny _ _ (getAttr _ (Str.ofString "name") _) _ _ _); refine attr_nameT (by assumption) (by assumption) (by (repeat (first | exact List.Mem.head _ | refine List.Mem.tail _ ?_))) (by (repeat (first | exact List.Mem.head _ | refine List.Mem.tail _ ?_))) ?_; intro _ _) | ((with_reducible show wpAny _ _ (getAttr _ (Str.ofString "value") _) _ _ _); refine attr_valueT (by assumption) (by assumption) (by (repeat (first | exact List.Mem.head _ | refine List.Mem.tail _ ?_))) (by (repeat (first | exact List.Mem.head _ | refine List.Mem.tail _ ?_))) ?_; intro _ _)) | (first | ((with_reducible show wpAny _ _ (getAttr _ (Str.ofString "name") _) _ _ _); refine attr_nameT (by assumption) (by assumption) (by (repeat (first | exact List.Mem.head _ | refine List.Mem.tail _ ?_))) (by (repeat (first | exact List.Mem.head _ | refine List.Mem.tail _ ?_))) ?_; intro _ _) | ((with_reducible show wpAny _ _ (getAttr _ (Str.ofString "value") _) _ _ _); refine attr_valueT (by assumption) (by assumption) (by (repeat (first | exact List.Mem.head _ | refine List.Mem.tail _ ?_))) (by (repeat (first | exact List.Mem.head _ | refine List.Mem.tail _ ?_))) ?_; intro _ _))) | ((with_reducible show wpAny _ _ _ _ _ _); walk1) | ((with_reducible show ite _ _ _); walk1)))
      refine method_cls I8.i.ok.k (by kernel_rfl : specialIn (K w.params) (.ref 162) "__getattribute__" = some (some (.builtin "type.__getattribute__"))) ?_
      refine cls_bind I8.i.ok.k (by kernel_rfl) (by kernel_rfl : findCls (K w.params) (.ref 162) (.type "type") "parse" = some (.get (.builtin "classmethod.__get__") (.ref 158) .none (.ref 162))) (wpAny_call (cm_get (s := { s8 with toks := s8.toks + 1 }) I8.i.ok.k (by kernel_rfl : recIn (K w.params) 158 "classmethod" = some [.ref 156, .bool false]) (handed_on rfl ?_)))
      have I9 : InT w s s.heap.objs.size _ _ (s8.heap.push (methodObj (.ref 156) (.ref 162))) s8.gens s8.os := I8.push (o := methodObj (.ref 156) (.ref 162)) rfl rfl
      have fq : s.heap.get? s8.heap.objs.size = none := I8.i.fresh_size
      generalize hq : s8.heap.objs.size = q at *
      intro cp
      dsimp only
      refine C_callWith (evalArgs_1 rfl ?_)
      clear I8 I7
      (repeat' (first | ((with_reducible show wpAny _ _ (eval (Expr.Name _ _) _) _ _ _); first | with_reducible (first | refine ldT (by assumption) (by ((repeat (first | assumption | exact upd_same | refine Eq.trans (upd_ne (by decide)) ?_)); all_goals rfl)) ?_ | refine biE (InT.i (by assumption)) (gn_len _) gb_len ?_ | refine biE (InT.i (by assumption)) (gn_range _) gb_range ?_ | refine glE (InT.i (by assumption)) (g_Pair _) ?_) | (first | refine ldT (by assumption) (by ((repeat (first | assumption | exact upd_same | refine Eq.trans (upd_ne (by decide)) ?_)); all_goals rfl)) ?_ | refine biE (InT.i (by assumption)) (gn_len _) gb_len ?_ | refine biE (InT.i (by assumption)) (gn_range _) gb_range ?_ | refine glE (InT.i (by assumption)) (g_Pair _) ?_)) | ((with_reducible show wpAny _ _ (storeName _ _ _) _ _ _); first | with_reducible ((refine stT (by assumption) ?_; intro _ _)) | ((refine stT (by assumption) ?_; intro _ _))) | ((with_reducible show wpAny _ _ (newList _) _ _ _); first | with_reducible ((refine newListT (by assumption) ?_; intro _ _ _ _)) | ((refine newListT (by assumption) ?_; intro _ _ _ _))) | ((with_reducible show wpAny _ _ (newTuple _) _ _ _); first | with_reducible ((refine newTupT (by assumption) ?_; intro _ _ _ _)) | ((refine newTupT (by assumption) ?_; intro _ _ _ _))) | ((with_reducible show wpAny _ _ (getMethod (Value.ref _) _ _) _ _ _); first | with_reducible (refine getm_append (InT.i (by assumption)) (by (repeat (first | exact List.Mem.head _ | refine List.Mem.tail _ ?_))) ?_) | (refine getm_append (InT.i (by assumption)) (by (repeat (first | exact List.Mem.head _ | refine List.Mem.tail _ ?_))) ?_)) | ((with_reducible show wpAny _ _ (getAttr (Value.ref _) _ _) _ _ _); first | with_reducible (first | ((with_reducible show wpAny _ _ (getAttr _ (Str.ofString "name") _) _ _ _); refine attr_nameT (by assumption) (by assumption) (by (repeat (first | exact List.Mem.head _ | refine List.Mem.tail _ ?_))) (by (repeat (first | exact List.Mem.head _ | refine List.Mem.tail _ ?_))) ?_; intro _ _) | ((with_reducible show wpAny _ _ (getAttr _ (Str.ofString "value") _) _ _ _); refine attr_valueT (by assumption) (by assumption) (by (repeat (first | exact List.Mem.head _ | refine List.Mem.tail _ ?_))) (by (repeat (first | exact List.Mem.head _ | refine List.Mem.tail _ ?_))) ?_; intro _ _)) | (first | ((with_reducible show wpAny _ _ (getAttr _ (Str.ofString "name") _) _ _ _); refine attr_nameT (by assumption) (by assumption) (by (repeat (first | exact List.Mem.head _ | refine List.Mem.tail _ ?_))) (by (repeat (first | exact List.Mem.head _ | refine List.Mem.tail _ ?_))) ?_; intro _ _) | ((with_reducible show wpAny _ _ (getAttr _ (Str.ofString "value") _) _ _ _); refine attr_valueT (by assumption) (by assumption) (by (repeat (first | exact List.Mem.head _ | refine List.Mem.tail _ ?_))) (by (repeat (first | exact List.Mem.head _ | refine List.Mem.tail _ ?_))) ?_; intro _ _))) | ((with_reducible show wpAny _ _ _ _ _ _); walk1) | ((with_reducible show ite _ _ _); walk1)))
      have hmo := (I9.i.has _ (.head _)).1
      refine ⟨.boundFrame, looks_method hmo (I9.i.ok.k _ _ (by kernel_rfl : (K w.params).lookup 156 = some { cls := .type "function", data := .func (fnOf "parse" "Pair.parse" (cpars 6 0) (cbody 6 0) (cscope 6 0) .none .none .none (.str "cpy313.importlib.metadata._collections" 210) (some 159) (.ref 155) .none) })),
        wpC_call (codeC_method hmo (fun i z => by cases z) ?_)⟩
      obtain ⟨oL, esL, epL, eL, nsL'⟩ := id nsL
      have dL := nsL'.1
      obtain ⟨oS, esS, epS, eS, dS, _⟩ := id I9.i.ns
      have hLne : s.heap.objs.size ≠ Ll := Nat.ne_of_gt (Heap.lt_size eL)
      have hrl := sub_len t b t.length (Nat.le_refl _)
      have law := step_law g hb hbs
      refine parse_code (n := n) fA hAf w _ _ tr I9.i.ok (by omega) (base := without (without (s8.heap.push (methodObj (.ref 156) (.ref 162))) s.heap.objs.size) Ll) (fun b o e => (without_some (without_some e).2).2)
        ⟨(fun z => by cases z), ⟨s.heap.objs.size, oS, rfl, (without_ne hLne).trans without_self, eS, fun vs z => by rw [dS] at z; cases z⟩, hlk, ⟨Ll, oL, hlf, without_self, I9.i.ext _ _ (.inr nL) eL, fun vs z => by rw [dL] at z; cases z⟩, trivial⟩ _ ?shape ?hit ?miss
      case shape =>
        rcases law with ⟨_, e⟩ | ⟨_, _, x, y, _, _, e, _⟩
        · exact .inl ⟨_, e⟩
        · exact .inr ⟨x, y, e⟩
      case hit =>
        intro s' p d x y ta tb e kp gk ok' fp fd ep ed
        rcases law with ⟨_, e'⟩ | ⟨f, b', x', y', H, hb', e', l1, l2⟩
        · rw [e'] at e; cases e
        rw [e'] at e
        injection e with ex e
        injection e with ey _
        subst ex ey
        have I10 : InT w s s.heap.objs.size _ ((p, pairOb d (Txt.strip x') (Txt.strip y') ta tb) :: (d, noDict) :: _) s'.heap s'.gens s'.os := ⟨I9.i.more (s := { s8 with heap := s8.heap.push (methodObj (.ref 156) (.ref 162)) }) (objs := [(p, pairOb d (Txt.strip x') (Txt.strip y') ta tb), (d, noDict)]) (I9.i.keep (s := { s8 with heap := s8.heap.push (methodObj (.ref 156) (.ref 162)) }) kp gk ok') (fun z hz => by
          rcases List.mem_cons.mp hz with rfl | hz
          · exact ⟨ep, rfl, .inl fp⟩
          · rcases List.mem_cons.mp hz with rfl | hz
            · exact ⟨ed, rfl, .inl fd⟩
            · cases hz), I9.t.keeps kp⟩
        clear I9 hmo eS
        have hlt := hit_lt H
        rw [l2] at I10
        have hlx : (Txt.strip x').length ≤ 1048576 := by omega
        have hlr : (Builtin.Str.strSub t b t.length).length ≤ 1048576 := by omega
        have hly' := sub_len t b' t.length (Nat.le_refl _)
        have hly : (Builtin.Str.strSub t b' t.length).length ≤ 1048576 := by omega
        dsimp only
        (repeat' (first | ((with_reducible show wpAny _ _ (eval (Expr.Name _ _) _) _ _ _); first | with_reducible (first | refine ldT (by assumption) (by ((repeat (first | assumption | exact upd_same | refine Eq.trans (upd_ne (by decide)) ?_)); all_goals rfl)) ?_ | refine biE (InT.i (by assumption)) (gn_len _) gb_len ?_ | refine biE (InT.i (by assumption)) (gn_range _) gb_range ?_ | refine glE (InT.i (by assumption)) (g_Pair _) ?_) | (first | refine ldT (by assumption) (by ((repeat (first | assumption | exact upd_same | refine Eq.trans (upd_ne (by decide)) ?_)); all_goals rfl)) ?_ | refine biE (InT.i (by assumption)) (gn_len _) gb_len ?_ | refine biE (InT.i (by assumption)) (gn_range _) gb_range ?_ | refine glE (InT.i (by assumption)) (g_Pair _) ?_)) | ((with_reducible show wpAny _ _ (storeName _ _ _) _ _ _); first | with_reducible ((refine stT (by assumption) ?_; intro _ _)) | ((refine stT (by assumption) ?_; intro _ _))) | ((with_reducible show wpAny _ _ (newList _) _ _ _); first | with_reducible ((refine newListT (by assumption) ?_; intro _ _ _ _)) | ((refine newListT (by assumption) ?_; intro _ _ _ _))) | ((with_reducible show wpAny _ _ (newTuple _) _ _ _); first | with_reducible ((refine newTupT (by assumption) ?_; intro _ _ _ _)) | ((refine newTupT (by assumption) ?_; intro _ _ _ _))) | ((with_reducible show wpAny _ _ (getMethod (Value.ref _) _ _) _ _ _); first | with_reducible (refine getm_append (InT.i (by assumption)) (by (repeat (first | exact List.Mem.head _ | refine List.Mem.tail _ ?_))) ?_) | (refine getm_append (InT.i (by assumption)) (by (repeat (first | exact List.Mem.head _ | refine List.Mem.tail _ ?_))) ?_)) | ((with_reducible show wpAny _ _ (getAttr (Value.ref _) _ _) _ _ _); first | with_reducible (first | ((with_reducible show wpAny _ _ (getAttr _ (Str.ofString "name") _) _ _ _); refine attr_nameT (by assumption) (by assumption) (by (repeat (first | exact List.Mem.head _ | refine List.Mem.tail _ ?_))) (by (repeat (first | exact List.Mem.head _ | refine List.Mem.tail _ ?_))) ?_; intro _ _) | ((with_reducible show wpAny _ _ (getAttr _ (Str.ofString "value") _) _ _ _); refine attr_valueT (by assumption) (by assumption) (by (repeat (first | exact List.Mem.head _ | refine List.Mem.tail _ ?_))) (by (repeat (first | exact List.Mem.head _ | refine List.Mem.tail _ ?_))) ?_; intro _ _)) | (first | ((with_reducible show wpAny _ _ (getAttr _ (Str.ofString "name") _) _ _ _); refine attr_nameT (by assumption) (by assumption) (by (repeat (first | exact List.Mem.head _ | refine List.Mem.tail _ ?_))) (by (repeat (first | exact List.Mem.head _ | refine List.Mem.tail _ ?_))) ?_; intro _ _) | ((with_reducible show wpAny _ _ (getAttr _ (Str.ofString "value") _) _ _ _); refine attr_valueT (by assumption) (by assumption) (by (repeat (first | exact List.Mem.head _ | refine List.Mem.tail _ ?_))) (by (repeat (first | exact List.Mem.head _ | refine List.Mem.tail _ ?_))) ?_; intro _ _))) | ((with_reducible show wpAny _ _ _ _ _ _); walk1) | ((with_reducible show ite _ _ _); walk1)))
        refine wpC_any ?_
        (repeat' (first | ((with_reducible show wpAny _ _ (eval (Expr.Name _ _) _) _ _ _); first | with_reducible (first | refine ldT (by assumption) (by ((repeat (first | assumption | exact upd_same | refine Eq.trans (upd_ne (by decide)) ?_)); all_goals rfl)) ?_ | refine biE (InT.i (by assumption)) (gn_len _) gb_len ?_ | refine biE (InT.i (by assumption)) (gn_range _) gb_range ?_ | refine glE (InT.i (by assumption)) (g_Pair _) ?_) | (first | refine ldT (by assumption) (by ((repeat (first | assumption | exact upd_same | refine Eq.trans (upd_ne (by decide)) ?_)); all_goals rfl)) ?_ | refine biE (InT.i (by assumption)) (gn_len _) gb_len ?_ | refine biE (InT.i (by assumption)) (gn_range _) gb_range ?_ | refine glE (InT.i (by assumption)) (g_Pair _) ?_)) | ((with_reducible show wpAny _ _ (storeName _ _ _) _ _ _); first | with_reducible ((refine stT (by assumption) ?_; intro _ _)) | ((refine stT (by assumption) ?_; intro _ _))) | ((with_reducible show wpAny _ _ (newList _) _ _ _); first | with_reducible ((refine newListT (by assumption) ?_; intro _ _ _ _)) | ((refine newListT (by assumption) ?_; intro _ _ _ _))) | ((with_reducible show wpAny _ _ (newTuple _) _ _ _); first | with_reducible ((refine newTupT (by assumption) ?_; intro _ _ _ _)) | ((refine newTupT (by assumption) ?_; intro _ _ _ _))) | ((with_reducible show wpAny _ _ (getMethod (Value.ref _) _ _) _ _ _); first | with_reducible (refine getm_append (InT.i (by assumption)) (by (repeat (first | exact List.Mem.head _ | refine List.Mem.tail _ ?_))) ?_) | (refine getm_append (InT.i (by assumption)) (by (repeat (first | exact List.Mem.head _ | refine List.Mem.tail _ ?_))) ?_)) | ((with_reducible show wpAny _ _ (getAttr (Value.ref _) _ _) _ _ _); first | with_reducible (first | ((with_reducible show wpAny _ _ (getAttr _ (Str.ofString "name") _) _ _ _); refine attr_nameT (by assumption) (by assumption) (by (repeat (first | exact List.Mem.head _ | refine List.Mem.tail _ ?_))) (by (repeat (first | exact List.Mem.head _ | refine List.Mem.tail _ ?_))) ?_; intro _ _) | ((with_reducible show wpAny _ _ (getAttr _ (Str.ofString "value") _) _ _ _); refine attr_valueT (by assumption) (by assumption) (by (repeat (first | exact List.Mem.head _ | refine List.Mem.tail _ ?_))) (by (repeat (first | exact List.Mem.head _ | refine List.Mem.tail _ ?_))) ?_; intro _ _)) | (first | ((with_reducible show wpAny _ _ (getAttr _ (Str.ofString "name") _) _ _ _); refine attr_nameT (by assumption) (by assumption) (by (repeat (first | exact List.Mem.head _ | refine List.Mem.tail _ ?_))) (by (repeat (first | exact List.Mem.head _ | refine List.Mem.tail _ ?_))) ?_; intro _ _) | ((with_reducible show wpAny _ _ (getAttr _ (Str.ofString "value") _) _ _ _); refine attr_valueT (by assumption) (by assumption) (by (repeat (first | exact List.Mem.head _ | refine List.Mem.tail _ ?_))) (by (repeat (first | exact List.Mem.head _ | refine List.Mem.tail _ ?_))) ?_; intro _ _))) | ((with_reducible show wpAny _ _ _ _ _ _); walk1) | ((with_reducible show ite _ _ _); walk1)))
        refine wpC_any ?_
        (repeat' (first | ((with_reducible show wpAny _ _ (eval (Expr.Name _ _) _) _ _ _); first | with_reducible (first | refine ldT (by assumption) (by ((repeat (first | assumption | exact upd_same | refine Eq.trans (upd_ne (by decide)) ?_)); all_goals rfl)) ?_ | refine biE (InT.i (by assumption)) (gn_len _) gb_len ?_ | refine biE (InT.i (by assumption)) (gn_range _) gb_range ?_ | refine glE (InT.i (by assumption)) (g_Pair _) ?_) | (first | refine ldT (by assumption) (by ((repeat (first | assumption | exact upd_same | refine Eq.trans (upd_ne (by decide)) ?_)); all_goals rfl)) ?_ | refine biE (InT.i (by assumption)) (gn_len _) gb_len ?_ | refine biE (InT.i (by assumption)) (gn_range _) gb_range ?_ | refine glE (InT.i (by assumption)) (g_Pair _) ?_)) | ((with_reducible show wpAny _ _ (storeName _ _ _) _ _ _); first | with_reducible ((refine stT (by assumption) ?_; intro _ _)) | ((refine stT (by assumption) ?_; intro _ _))) | ((with_reducible show wpAny _ _ (newList _) _ _ _); first | with_reducible ((refine newListT (by assumption) ?_; intro _ _ _ _)) | ((refine newListT (by assumption) ?_; intro _ _ _ _))) | ((with_reducible show wpAny _ _ (newTuple _) _ _ _); first | with_reducible ((refine newTupT (by assumption) ?_; intro _ _ _ _)) | ((refine newTupT (by assumption) ?_; intro _ _ _ _))) | ((with_reducible show wpAny _ _ (getMethod (Value.ref _) _ _) _ _ _); first | with_reducible (refine getm_append (InT.i (by assumption)) (by (repeat (first | exact List.Mem.head _ | refine List.Mem.tail _ ?_))) ?_) | (refine getm_append (InT.i (by assumption)) (by (repeat (first | exact List.Mem.head _ | refine List.Mem.tail _ ?_))) ?_)) | ((with_reducible show wpAny _ _ (getAttr (Value.ref _) _ _) _ _ _); first | with_reducible (first | ((with_reducible show wpAny _ _ (getAttr _ (Str.ofString "name") _) _ _ _); refine attr_nameT (by assumption) (by assumption) (by (repeat (first | exact List.Mem.head _ | refine List.Mem.tail _ ?_))) (by (repeat (first | exact List.Mem.head _ | refine List.Mem.tail _ ?_))) ?_; intro _ _) | ((with_reducible show wpAny _ _ (getAttr _ (Str.ofString "value") _) _ _ _); refine attr_valueT (by assumption) (by assumption) (by (repeat (first | exact List.Mem.head _ | refine List.Mem.tail _ ?_))) (by (repeat (first | exact List.Mem.head _ | refine List.Mem.tail _ ?_))) ?_; intro _ _)) | (first | ((with_reducible show wpAny _ _ (getAttr _ (Str.ofString "name") _) _ _ _); refine attr_nameT (by assumption) (by assumption) (by (repeat (first | exact List.Mem.head _ | refine List.Mem.tail _ ?_))) (by (repeat (first | exact List.Mem.head _ | refine List.Mem.tail _ ?_))) ?_; intro _ _) | ((with_reducible show wpAny _ _ (getAttr _ (Str.ofString "value") _) _ _ _); refine attr_valueT (by assumption) (by assumption) (by (repeat (first | exact List.Mem.head _ | refine List.Mem.tail _ ?_))) (by (repeat (first | exact List.Mem.head _ | refine List.Mem.tail _ ?_))) ?_; intro _ _))) | ((with_reducible show wpAny _ _ _ _ _ _); walk1) | ((with_reducible show ite _ _ _); walk1)))
        rename_i s14 a14 I14 fr14
        have ef : ((t.length : Int) - ((Builtin.Str.strSub t b t.length).length : Int) + ((Txt.strip x').length : Int)) = (f : Int) := by rw [hrl, l1]; omega
        have ev : ((t.length : Int) - ((Builtin.Str.strSub t b' t.length).length : Int)) = (b' : Int) := by rw [hly']; omega
        rw [ef, ev] at I14
        obtain ⟨tf', tb', I14⟩ : ∃ tf' tb' : Tok, InT w s _ _ ((a14, tupObj #[.int (f : Int) tf', .int (b' : Int) tb']) :: (p, pairOb d (Txt.strip x') (Builtin.Str.strSub t b' t.length) ta tb) :: (d, noDict) :: (q, methodObj (Value.ref 156) (Value.ref 162)) :: (it, rgIt (i + 1) (t.length + 1 - i - 1)) :: (sa, listOf sv c) :: T) s14.heap s14.gens s14.os := ⟨_, _, I14⟩
        refine appendT (n := c) (N := (a14, tupObj #[.int (f : Int) tf', .int (b' : Int) tb']) :: (p, pairOb d (Txt.strip x') (Builtin.Str.strSub t b' t.length) ta tb) :: (d, noDict) :: (q, methodObj (Value.ref 156) (Value.ref 162)) :: (it, rgIt (i + 1) (t.length + 1 - i - 1)) :: T) (I14.mono fun z hz => ?_) frs (fun z hz => ?_) (fun s15 I15 => ?_) (by rw [hS.size, sizeLine_eq]; omega)
        · rcases List.mem_cons.mp hz with rfl | hz
          · exact .tail _ (.tail _ (.tail _ (.tail _ (.tail _ (.head _)))))
          · rcases List.mem_cons.mp hz with rfl | hz
            · exact .head _
            · rcases List.mem_cons.mp hz with rfl | hz
              · exact .tail _ (.head _)
              · rcases List.mem_cons.mp hz with rfl | hz
                · exact .tail _ (.tail _ (.head _))
                · rcases List.mem_cons.mp hz with rfl | hz
                  · exact .tail _ (.tail _ (.tail _ (.head _)))
                  · rcases List.mem_cons.mp hz with rfl | hz
                    · exact .tail _ (.tail _ (.tail _ (.tail _ (.head _))))
                    · exact .tail _ (.tail _ (.tail _ (.tail _ (.tail _ (.tail _ hz)))))
        · rcases List.mem_cons.mp hz with rfl | hz
          · exact (show Value.type "tuple" ≠ .type "list" by decide)
          · rcases List.mem_cons.mp hz with rfl | hz
            · exact (fun z => by cases z)
            · rcases List.mem_cons.mp hz with rfl | hz
              · exact (show Value.type "dict" ≠ .type "list" by decide)
              · rcases List.mem_cons.mp hz with rfl | hz
                · exact (show Value.type "method" ≠ .type "list" by decide)
                · rcases List.mem_cons.mp hz with rfl | hz
                  · exact (show Value.type "range_iterator" ≠ .type "list" by decide)
                  · rw [hS.tup z hz]; exact (show Value.type "tuple" ≠ .type "list" by decide)
        clear I14
        (repeat' (first | ((with_reducible show wpAny _ _ (eval (Expr.Name _ _) _) _ _ _); first | with_reducible (first | refine ldT (by assumption) (by ((repeat (first | assumption | exact upd_same | refine Eq.trans (upd_ne (by decide)) ?_)); all_goals rfl)) ?_ | refine biE (InT.i (by assumption)) (gn_len _) gb_len ?_ | refine biE (InT.i (by assumption)) (gn_range _) gb_range ?_ | refine glE (InT.i (by assumption)) (g_Pair _) ?_) | (first | refine ldT (by assumption) (by ((repeat (first | assumption | exact upd_same | refine Eq.trans (upd_ne (by decide)) ?_)); all_goals rfl)) ?_ | refine biE (InT.i (by assumption)) (gn_len _) gb_len ?_ | refine biE (InT.i (by assumption)) (gn_range _) gb_range ?_ | refine glE (InT.i (by assumption)) (g_Pair _) ?_)) | ((with_reducible show wpAny _ _ (storeName _ _ _) _ _ _); first | with_reducible ((refine stT (by assumption) ?_; intro _ _)) | ((refine stT (by assumption) ?_; intro _ _))) | ((with_reducible show wpAny _ _ (newList _) _ _ _); first | with_reducible ((refine newListT (by assumption) ?_; intro _ _ _ _)) | ((refine newListT (by assumption) ?_; intro _ _ _ _))) | ((with_reducible show wpAny _ _ (newTuple _) _ _ _); first | with_reducible ((refine newTupT (by assumption) ?_; intro _ _ _ _)) | ((refine newTupT (by assumption) ?_; intro _ _ _ _))) | ((with_reducible show wpAny _ _ (getMethod (Value.ref _) _ _) _ _ _); first | with_reducible (refine getm_append (InT.i (by assumption)) (by (repeat (first | exact List.Mem.head _ | refine List.Mem.tail _ ?_))) ?_) | (refine getm_append (InT.i (by assumption)) (by (repeat (first | exact List.Mem.head _ | refine List.Mem.tail _ ?_))) ?_)) | ((with_reducible show wpAny _ _ (getAttr (Value.ref _) _ _) _ _ _); first | with_reducible (first | ((with_reducible show wpAny _ _ (getAttr _ (Str.ofString "name") _) _ _ _); refine attr_nameT (by assumption) (by assumption) (by (repeat (first | exact List.Mem.head _ | refine List.Mem.tail _ ?_))) (by (repeat (first | exact List.Mem.head _ | refine List.Mem.tail _ ?_))) ?_; intro _ _) | ((with_reducible show wpAny _ _ (getAttr _ (Str.ofString "value") _) _ _ _); refine attr_valueT (by assumption) (by assumption) (by (repeat (first | exact List.Mem.head _ | refine List.Mem.tail _ ?_))) (by (repeat (first | exact List.Mem.head _ | refine List.Mem.tail _ ?_))) ?_; intro _ _)) | (first | ((with_reducible show wpAny _ _ (getAttr _ (Str.ofString "name") _) _ _ _); refine attr_nameT (by assumption) (by assumption) (by (repeat (first | exact List.Mem.head _ | refine List.Mem.tail _ ?_))) (by (repeat (first | exact List.Mem.head _ | refine List.Mem.tail _ ?_))) ?_; intro _ _) | ((with_reducible show wpAny _ _ (getAttr _ (Str.ofString "value") _) _ _ _); refine attr_valueT (by assumption) (by assumption) (by (repeat (first | exact List.Mem.head _ | refine List.Mem.tail _ ?_))) (by (repeat (first | exact List.Mem.head _ | refine List.Mem.tail _ ?_))) ?_; intro _ _))) | ((with_reducible show wpAny _ _ _ _ _ _); walk1) | ((with_reducible show ite _ _ _); walk1)))
        rename_i s16 I16 s17 I17
        refine ⟨t.length + 1 - (i + 1), by omega, i + 1, rfl, ⟨_, (a14, tupObj #[.int (f : Int) tf', .int (b' : Int) tb']) :: T, sv.push (.ref a14), c + 1, b', l ++ [(f, b')], tt', tb, I17.mono fun z hz => ?_, by ((repeat (first | assumption | exact upd_same | refine Eq.trans (upd_ne (by decide)) ?_)); all_goals rfl), by ((repeat (first | assumption | exact upd_same | refine Eq.trans (upd_ne (by decide)) ?_)); all_goals rfl), by ((repeat (first | assumption | exact upd_same | refine Eq.trans (upd_ne (by decide)) ?_)); all_goals rfl), hS.push, fun tail ht => by rw [List.append_assoc]; exact hpre _ (.cons H ht), by omega, hb', by omega, by rw [List.length_append]; show l.length + 1 ≤ b'; omega, (fun z hz => by
          rcases List.mem_cons.mp hz with rfl | hz
          · exact fr14
          · exact hTf z hz)⟩⟩
        rcases List.mem_cons.mp hz with rfl | hz
        · have : rgIt ((i + 1 : Nat) : Int) ((t.length : Int) + 1 - ((i + 1 : Nat) : Int)) = rgIt ((i : Int) + 1) ((t.length : Int) + 1 - i - 1) := by
            rw [show ((i + 1 : Nat) : Int) = (i : Int) + 1 by omega, show (t.length : Int) + 1 - ((i : Int) + 1) = (t.length : Int) + 1 - i - 1 by omega]
          rw [this]; exact .tail _ (.tail _ (.tail _ (.tail _ (.tail _ (.head _)))))
        · rcases List.mem_cons.mp hz with rfl | hz
          · exact .head _
          · rcases List.mem_cons.mp hz with rfl | hz
            · exact .tail _ (.head _)
            · exact .tail _ (.tail _ (.tail _ (.tail _ (.tail _ (.tail _ hz)))))
      case miss =>
        intro s' e te a es gk ok' FL up
        have chain : Chain t 0 l := by
          rcases law with ⟨nh, _⟩ | ⟨_, _, x, y, _, _, e', _⟩
          · have := hpre [] (.nil nh)
            rwa [List.append_nil] at this
          · rw [e'] at es; cases es
        dsimp only
        have f0 : (without s.heap Ll).get? Ll = none := without_self
        have base9 := InT.rebase I9 tab nL kL k0L
        rw [show s8.gens = s'.gens from gk.symm, show s8.os = s'.os from ok'.symm] at base9
        have hN : ∀ p ∈ (q, methodObj (Value.ref 156) (Value.ref 162)) :: (it, rgIt ((i : Int) + 1) ((t.length : Int) + 1 - i - 1)) :: (sa, listOf sv c) :: T, p.1 ≠ Ll := fun p hp z => by
          have fr : s.heap.get? p.1 = none := by
            rcases List.mem_cons.mp hp with rfl | hp
            · exact fq
            · rcases List.mem_cons.mp hp with rfl | hp
              · exact fit5
              · rcases List.mem_cons.mp hp with rfl | hp
                · exact frs
                · exact hTf p hp
          rw [z, eL] at fr; cases fr
        refine wpAny_looks_onW hAf rfl FL fun h1 HW up2 => ?_
        refine wpAny_landsW HW fun h2 FL2 up3 => ?_
        have IT := InT.land base9 nL kL k0L f0 hN FL2.1 ((up.trans up2).trans up3)
        refine wpAny_handleBy_builtin (X := "TypeError") (T := "TypeError") (b := true) PySem.F.isExc_TypeError PySem.F.notTuple_TypeError (by rw [isSubtype_type]; kernel_rfl) ?_
        refine biE IT.i (gn_TypeError _) gb_TypeError ?_
        refine ⟨rfl, FL2.there, ?_⟩
        show wpAny _ _ (setFlight _ none) _ _ _
        refine wpAny_setFlight_noneW FL2.1 FL2.2.2.1 FL2.2.2.2.at fun h3 k1 k2 k3 k4 => ?_
        have up4 : h2.UpToSlots h3 := fun b o hb hn => ⟨o.slots, k4 b o hb hn⟩
        have IU := InT.land base9 nL kL k0L f0 hN k1 (((up.trans up2).trans up3).trans up4)
        (repeat' (first | ((with_reducible show wpAny _ _ (eval (Expr.Name _ _) _) _ _ _); first | with_reducible (first | refine ldT (by assumption) (by ((repeat (first | assumption | exact upd_same | refine Eq.trans (upd_ne (by decide)) ?_)); all_goals rfl)) ?_ | refine biE (InT.i (by assumption)) (gn_len _) gb_len ?_ | refine biE (InT.i (by assumption)) (gn_range _) gb_range ?_ | refine glE (InT.i (by assumption)) (g_Pair _) ?_) | (first | refine ldT (by assumption) (by ((repeat (first | assumption | exact upd_same | refine Eq.trans (upd_ne (by decide)) ?_)); all_goals rfl)) ?_ | refine biE (InT.i (by assumption)) (gn_len _) gb_len ?_ | refine biE (InT.i (by assumption)) (gn_range _) gb_range ?_ | refine glE (InT.i (by assumption)) (g_Pair _) ?_)) | ((with_reducible show wpAny _ _ (storeName _ _ _) _ _ _); first | with_reducible ((refine stT (by assumption) ?_; intro _ _)) | ((refine stT (by assumption) ?_; intro _ _))) | ((with_reducible show wpAny _ _ (newList _) _ _ _); first | with_reducible ((refine newListT (by assumption) ?_; intro _ _ _ _)) | ((refine newListT (by assumption) ?_; intro _ _ _ _))) | ((with_reducible show wpAny _ _ (newTuple _) _ _ _); first | with_reducible ((refine newTupT (by assumption) ?_; intro _ _ _ _)) | ((refine newTupT (by assumption) ?_; intro _ _ _ _))) | ((with_reducible show wpAny _ _ (getMethod (Value.ref _) _ _) _ _ _); first | with_reducible (refine getm_append (InT.i (by assumption)) (by (repeat (first | exact List.Mem.head _ | refine List.Mem.tail _ ?_))) ?_) | (refine getm_append (InT.i (by assumption)) (by (repeat (first | exact List.Mem.head _ | refine List.Mem.tail _ ?_))) ?_)) | ((with_reducible show wpAny _ _ (getAttr (Value.ref _) _ _) _ _ _); first | with_reducible (first | ((with_reducible show wpAny _ _ (getAttr _ (Str.ofString "name") _) _ _ _); refine attr_nameT (by assumption) (by assumption) (by (repeat (first | exact List.Mem.head _ | refine List.Mem.tail _ ?_))) (by (repeat (first | exact List.Mem.head _ | refine List.Mem.tail _ ?_))) ?_; intro _ _) | ((with_reducible show wpAny _ _ (getAttr _ (Str.ofString "value") _) _ _ _); refine attr_valueT (by assumption) (by assumption) (by (repeat (first | exact List.Mem.head _ | refine List.Mem.tail _ ?_))) (by (repeat (first | exact List.Mem.head _ | refine List.Mem.tail _ ?_))) ?_; intro _ _)) | (first | ((with_reducible show wpAny _ _ (getAttr _ (Str.ofString "name") _) _ _ _); refine attr_nameT (by assumption) (by assumption) (by (repeat (first | exact List.Mem.head _ | refine List.Mem.tail _ ?_))) (by (repeat (first | exact List.Mem.head _ | refine List.Mem.tail _ ?_))) ?_; intro _ _) | ((with_reducible show wpAny _ _ (getAttr _ (Str.ofString "value") _) _ _ _); refine attr_valueT (by assumption) (by assumption) (by (repeat (first | exact List.Mem.head _ | refine List.Mem.tail _ ?_))) (by (repeat (first | exact List.Mem.head _ | refine List.Mem.tail _ ?_))) ?_; intro _ _))) | ((with_reducible show wpAny _ _ _ _ _ _); walk1) | ((with_reducible show ite _ _ _); walk1)))
        show R (.ok (.ret (.ref sa))) _
        refine hR _ sa sv c T l (fun b o n e => ?_) ((((up.trans up2).trans up3).trans up4).ns ⟨oL, esL, epL, I9.i.ext _ _ (.inr nL) eL, nsL'⟩) IU.i.gens IU.i.os (IU.i.has _ (.tail _ (.tail _ (.head _)))).1 (fun p hp => have r := IU.i.has _ (.tail _ (.tail _ (.tail _ hp))); ⟨r.1, r.2.2⟩) hS chain (fun z => by rw [z, eL] at frs; cases frs) (fun p hp z => by have := hTf p hp; rw [z, eL] at this; cases this)
        by_cases h172 : b = 172
        · subst h172; rw [tab.a] at e; cases e; exact IU.t.a
        · by_cases h187 : b = 187
          · subst h187; rw [tab.b] at e; cases e; exact IU.t.b
          · exact IU.i.ext b o (.inr ⟨h172, h187⟩) ((without_ne n).trans e)
end
end Mine

end
section
open PySem PySem.W PySem.W.X PyProof.Rows PySem.Calls
set_option maxRecDepth 100000
namespace Mine
theorem ints_get {x : Value} {l : List Value} {ns : List Int} (h : IntsAre l ns) : ∀ {i : Nat}, l[i]? = some x → ∃ n t, x = .int n t := by
  induction h with
  | nil => intro i e; exact nomatch (List.getElem?_nil.symm.trans e)
  | cons n t _ ih =>
    intro i e
    cases i with
    | zero => exact ⟨n, t, (Option.some.inj e).symm⟩
    | succ i => exact ih (i := i) e
theorem strs_push {y : Str} {t : Tok} {l : List Value} {ys : List Str} (h : StrsAre l ys) : StrsAre (l ++ [.str y t]) (ys ++ [y]) := by
  induction h with
  | nil => exact .cons y t .nil
  | cons z u _ ih => exact .cons z u ih
section
variable {w : World} {s₀ : Shared} {L a : Addr} {m : LMap} {N : List (Addr × Obj)} {h h' : Heap} {g : Array GenState} {os : OsState} {o o' : Obj}
theorem InT.turn' (I : InT w s₀ L m ((a, o) :: N) h g os) (fa : s₀.heap.get? a = none) (hs : Heap.SameBut a h h') (e : h'.get? a = some o') (hc : hasCls o' = true) (nc : o.cls ≠ .type "code") (dis : ∀ p ∈ N, p.1 ≠ a) : InT w s₀ L m ((a, o') :: N) h' g os := by
  have J := (I.mono (N' := [(a, o)]) (fun p hp => by
    rcases List.mem_cons.mp hp with rfl | hp
    · exact .head _
    · cases hp)).turn fa hs e hc nc (fun _ hp => nomatch hp)
  refine ⟨⟨J.i.ns, J.i.fresh, J.i.ok₀, J.i.ext, J.i.there, J.i.gens, J.i.os, J.i.ok, fun p hp => ?_⟩, J.t⟩
  rcases List.mem_cons.mp hp with rfl | hp
  · exact J.i.has _ (.head _)
  · exact ⟨(hs.2 _ (dis p hp)).trans (I.i.has p (.tail _ hp)).1, (I.i.has p (.tail _ hp)).2⟩
-- the frame let go: all that stood stands
theorem InT.drop {t0 : Tab s₀.heap} (I : InT w s₀ L m N h g os) (hs : Heap.SameBut L h h') : (∀ b o, s₀.heap.get? b = some o → h'.get? b = some o) ∧ ∀ p ∈ N, h'.get? p.1 = some p.2 := by
  have nT := I.i.ok.apart I.i.ns
  obtain ⟨st, _, hN⟩ := I.i.drop (d := s₀.drawn) (t := s₀.toks) hs
  refine ⟨fun b o e => ?_, hN⟩
  by_cases h172 : b = 172
  · subst h172; rw [t0.a] at e; cases e; exact (hs.2 _ nT.1.symm).trans I.t.a
  · by_cases h187 : b = 187
    · subst h187; rw [t0.b] at e; cases e; exact (hs.2 _ nT.2.symm).trans I.t.b
    · exact st.ext b o (.inr ⟨h172, h187⟩) e
end
section
variable {w : World} {A : Around} {M : Model} {E : Value → Shared → Prop} {s s₀ : Shared} {L a : Addr} {m : LMap} {N : List (Addr × Obj)} {env : Env} {its : Array Value} {n : Nat}
theorem newListT' {vs : List Value} {Q : Value → Shared → Prop} (I : InT w s₀ L m N s.heap s.gens s.os) (h : ∀ s' a, InT w s₀ L m ((a, listOf vs.toArray 0) :: N) s'.heap s'.gens s'.os → s₀.heap.get? a = none → (∀ p ∈ N, p.1 ≠ a) → Q (.ref a) s') (hsz : vs.length ≤ sizeLine := by size_fits) : wpAny M A (newList vs) Q E s :=
  wpAny_newObj_type (h { s with heap := s.heap.push (listOf vs.toArray 0) } _ (I.push rfl rfl) I.i.fresh_size fun p hp => Nat.ne_of_lt (Heap.lt_size (I.i.has p hp).1)) (by show vs.toArray.size ≤ sizeLine; rw [List.size_toArray]; exact hsz)
theorem appendT' {x : Value} {Q : Value → Shared → Prop} (I : InT w s₀ L m ((a, listOf its n) :: N) s.heap s.gens s.os) (fa : s₀.heap.get? a = none) (dis : ∀ p ∈ N, p.1 ≠ a)
    (h : ∀ s', InT w s₀ L m ((a, listOf (its.push x) (n + 1)) :: N) s'.heap s'.gens s'.os → Q .none s') (hsz : its.size ≤ sizeLine) : wpAny (model PW w) A (call (.builtin "list.append") [.ref a, x]) Q E s :=
  append_at (hsz := hsz) (I.i.has _ (.head _)).1 fun h' hs ho' => h { s with heap := h' } (I.turn' fa hs ho' rfl (show Value.type "list" ≠ .type "code" by decide) dis)
theorem InT.slice {h0 : Heap} {g0 : Array GenState} {o0 : OsState} (I : InT w s₀ L m N h0 g0 o0) (vl vu : Value) (items : Array Value) :
    InT w s₀ L m ((h0.objs.size + 1, listOf items 0) :: N) ((h0.push { cls := .type "slice", data := .fields #[vl, vu, .none] }).push { cls := .type "list", data := .seq items }) g0 o0 ∧ s₀.heap.get? (h0.objs.size + 1) = none := by
  have I1 := InT.push I (o := { cls := .type "slice", data := .fields #[vl, vu, .none] }) rfl rfl
  have I2 := I1.push (o := listOf items 0) rfl rfl
  have f2 := I1.i.fresh_size
  rw [Heap.size_push] at I2 f2
  exact ⟨I2.mono fun p hp => by
    rcases List.mem_cons.mp hp with rfl | hp
    · exact .head _
    · exact .tail _ (.tail _ hp), f2⟩
end
noncomputable def One (y : Str) : Prop := y.length = 1 ∧ (ch y 0 = 97 ∨ ch y 0 = 61 ∨ ch y 0 = 32 ∨ ch y 0 = 98)
theorem item_all : ∀ k : Fin 6, (Txt.item "a= b =" (k.val : Int)).length = 1 ∧ (ch (Txt.item "a= b =" (k.val : Int)) 0 = 97 ∨ ch (Txt.item "a= b =" (k.val : Int)) 0 = 61 ∨ ch (Txt.item "a= b =" (k.val : Int)) 0 = 32 ∨ ch (Txt.item "a= b =" (k.val : Int)) 0 = 98) := by decide +kernel
theorem item_one (r : Int) (h0 : 0 ≤ r) (h1 : r < 6) : One (Txt.item "a= b =" r) := by
  obtain ⟨k, rfl⟩ := Int.eq_ofNat_of_zero_le h0
  exact item_all ⟨k, Int.ofNat_lt.mp h1⟩
theorem sum_one : ∀ {ys : List Str}, (∀ y ∈ ys, One y) → ys.length ≤ 63 → (ys.map (·.length)).sum + ys.length ≤ 1048576 := by
  have : ∀ ys : List Str, (∀ y ∈ ys, One y) → (ys.map (·.length)).sum = ys.length := fun ys => by
    induction ys with
    | nil => intro _; rfl
    | cons y ys ih =>
      intro h
      rw [List.map_cons, List.sum_cons, ih fun z hz => h z (.tail _ hz), (h y (.head _)).1, List.length_cons, Nat.add_comm]
  intro ys h hl
  rw [this ys h]; omega
theorem ch_append (x y : Str) (i : Nat) : ch (x ++ y) i = if i < x.length then ch x i else ch y (i - x.length) := by
  unfold ch Str.length
  rw [Str.cps_append, Array.getD_eq_getD_getElem?, Array.getD_eq_getD_getElem?, Array.getD_eq_getD_getElem?, Array.getElem?_append]
  split <;> rfl
noncomputable def Allow (x : Str) : Prop := ∀ i, i < x.length → ch x i = 97 ∨ ch x i = 61 ∨ ch x i = 32 ∨ ch x i = 98
theorem Allow.append {x y : Str} (hx : Allow x) (hy : Allow y) : Allow (x ++ y) := fun i h => by
  rw [ch_append]
  rw [Str.length_append] at h
  split
  · exact hx i (by assumption)
  · exact hy _ (by omega)
theorem One.allow {y : Str} (o : One y) : Allow y := fun i hi => by
  rw [o.1] at hi
  obtain rfl : i = 0 := by omega
  exact o.2
theorem join_one : ∀ {ys : List Str}, (∀ y ∈ ys, One y) → (Str.join Str.empty ys).length = ys.length ∧ Allow (Str.join Str.empty ys)
  | [], _ => ⟨rfl, fun i h => absurd h (Nat.not_lt_zero _)⟩
  | [y], h => ⟨(h y (.head _)).1, (h y (.head _)).allow⟩
  | y :: z :: r, h => by
    have ih := join_one (ys := z :: r) fun q hq => h q (.tail _ hq)
    have o := h y (.head _)
    have e : Str.join Str.empty (y :: z :: r) = y ++ (Str.empty ++ Str.join Str.empty (z :: r)) := Str.append_assoc y Str.empty _
    rw [e, Str.empty_append, Str.length_append, o.1, ih.1]
    exact ⟨by simp only [List.length_cons]; omega, o.allow.append ih.2⟩
theorem text_good (ys : List Str) (h : ∀ y ∈ ys, One y) (hl : ys.length ≤ 14) : Good (Str.ofString "=" ++ Txt.join (Str.ofString "") ys ++ Str.ofString "=") ∧
    (Str.ofString "=").length + (Txt.join (Str.ofString "") ys).length ≤ sizeLine ∧ (Str.ofString "=" ++ Txt.join (Str.ofString "") ys).length + (Str.ofString "=").length ≤ sizeLine := by
  rw [show Str.ofString "" = Str.empty by decide +kernel]
  rw [show Txt.join Str.empty ys = Str.join Str.empty ys from StrLaws.glued_eq_join _ _]
  obtain ⟨e, al⟩ := join_one h
  have e1 : (Str.ofString "=").length = 1 := by decide +kernel
  have a1 : Allow (Str.ofString "=") := fun i hi => by
    rw [e1] at hi
    obtain rfl : i = 0 := by omega
    exact .inr (.inl (by decide +kernel))
  have c1 : ch (Str.ofString "=") 0 = 61 := by decide +kernel
  have l2 : (Str.ofString "=" ++ Str.join Str.empty ys).length = 1 + ys.length := by rw [Str.length_append, e1]; exact congrArg (1 + ·) e
  have l3 : (Str.ofString "=" ++ Str.join Str.empty ys ++ Str.ofString "=").length = 2 + ys.length := by rw [Str.length_append, e1, l2]; omega
  refine ⟨⟨by omega, by omega, ?_, ?_, (a1.append al).append a1⟩, by rw [e1, show (Str.join Str.empty ys).length = ys.length from e, sizeLine_eq]; omega, by rw [l2, e1, sizeLine_eq]; omega⟩
  · rw [ch_append, if_pos (by omega), ch_append, if_pos (by omega)]; exact c1
  · rw [l3, ch_append, if_neg (by omega), l2, show 2 + ys.length - 1 - (1 + ys.length) = 0 by omega]; exact c1
noncomputable abbrev TxInv (w : World) (s₀ : Shared) (C da it D : Addr) (its : Array Value) (k : Nat) (h : Heap) (g : Array GenState) (o : OsState) : Prop := (∃ m vs n' ys io, InT w s₀ C m [(it, io), (da, listOf vs n'), (D, listOf its 0)] h g o ∧ LsIt D k io ∧ StrsAre vs.toList ys ∧ ys.length = k ∧ ∀ y ∈ ys, One y) ∧ (k ≤ its.size)
section
set_option maxHeartbeats 4000000 in
theorem text_code {A : Around} {n : Nat} (fit : Fit (n + 2) A) (w : World) (s : Shared) (sa : Addr) (vs : List Value) (ns : List Int) (ok : Ok w s.heap) (tab : Tab s.heap) (hsa : s.heap.IsList sa vs.toArray) (hi : IntsAre vs ns) (hns : ns.length ≤ 63) :
    codeAny (model PW w) A (.call (.ref 170) ⟨[.ref sa], []⟩) (fun r s' => ∃ t tt, r = .ok (.ret (.str t tt)) ∧ Good t ∧ (∀ b o, s.heap.get? b = some o → s'.heap.get? b = some o) ∧ s'.gens = s.gens ∧ s'.os = s.os) s := by
  refine' enter (name := "_law_text") (qual := "_law_text") (params := parsOf 8) (body := _) (scope := _) (dV := .none) (kV := .none) (doc := .none) (pm := .str "law_il0124_01" 422) (cdv := .ref 169) (ct := .none) (an := none) (od := none)
    (binds := [("script", .ref sa)]) fit ok ?hl ?hcd ?hb ?hloc ?hcell ?h ?h1 ?h2 ?h3
  case hl => exact (by kernel_rfl : (K w.params).lookup 170 = some { cls := .type "function", data := .func (fnOf "_law_text" "_law_text" (parsOf 8) (bodyOf 8) (scopeOf 8) .none .none .none (.str "law_il0124_01" 422) none (.ref 169) .none) })
  case hcd => kernel_rfl
  case hloc => rfl
  case hcell => decide
  case h1 => rfl
  case h2 => rfl
  case h3 => rfl
  case hb => exact BindsTo.of_eq rfl
  case h =>
    intro s1 I0 k1
    have I1 : InT w s _ _ _ _ _ _ := ⟨I0, tab.keeps k1⟩
    clear I0
    have hL1 : s1.heap.IsList sa vs.toArray := let ⟨o, e, r⟩ := hsa; ⟨o, k1 _ _ e, r⟩
    generalize hB : bodyOf 8 = B
    generalize hS : scopeOf 8 = S
    conv at hB => lhs; whnf
    conv at hS => lhs; whnf
    subst hB hS
    generalize hE : envOf _ _ _ 170 _ = env'
    have fA : Fit (n + 1) (A.deeper env') := fit.deeper
    generalize hA : A.deeper env' = A' at *
    subst hE
    have hnum := kmk_upto (y := 14) hi (by decide)
    (repeat' (first | ((with_reducible show wpAny _ _ (eval (Expr.Name _ _) _) _ _ _); first | with_reducible (first | refine ldT (by assumption) (by ((repeat (first | assumption | exact upd_same | refine Eq.trans (upd_ne (by decide)) ?_)); all_goals rfl)) ?_) | (first | refine ldT (by assumption) (by ((repeat (first | assumption | exact upd_same | refine Eq.trans (upd_ne (by decide)) ?_)); all_goals rfl)) ?_)) | ((with_reducible show wpAny _ _ (eval (Expr.Subscript _ _ _) _) _ _ _); first | with_reducible (refine wpAny_Subscript_list_slice (ht := by with_unfolding_all (intro _ _; rfl)) ?_) | (refine wpAny_Subscript_list_slice (ht := by with_unfolding_all (intro _ _; rfl)) ?_)) | ((with_reducible show wpAny _ _ (subscriptTail _ _ _ _) _ _ _); first | with_reducible (refine KXi.item (n := 6) (by with_unfolding_all rfl) (Int.le_trans (by decide) (fmod_lo _ (by decide))) (fmod_hi _ (by decide)) (by decide) (hs := by with_unfolding_all rfl) (ht := by with_unfolding_all (intro _; rfl)) ?_) | (refine KXi.item (n := 6) (by with_unfolding_all rfl) (Int.le_trans (by decide) (fmod_lo _ (by decide))) (fmod_hi _ (by decide)) (by decide) (hs := by with_unfolding_all rfl) (ht := by with_unfolding_all (intro _; rfl)) ?_)) | ((with_reducible show wpAny _ _ (call (Value.builtin "str.join") _ _) _ _ _); first | with_reducible ((refine join_listW (by assumption) (by assumption) (by decide) (sum_one (by assumption) (by omega)) ?_; intro _ _)) | ((refine join_listW (by assumption) (by assumption) (by decide) (sum_one (by assumption) (by omega)) ?_; intro _ _))) | ((with_reducible show wpAny _ _ (storeName _ _ _) _ _ _); first | with_reducible ((refine stT (by assumption) ?_; intro _ _)) | ((refine stT (by assumption) ?_; intro _ _))) | ((with_reducible show wpAny _ _ (newList _) _ _ _); first | with_reducible ((refine newListT (by assumption) ?_; intro _ _ _ _)) | ((refine newListT (by assumption) ?_; intro _ _ _ _))) | ((with_reducible show wpAny _ _ (eval (Expr.ListComp _ _ _ _) _) _ _ _); first | with_reducible (with_unfolding_all refine ListComp_F (cl := []) (by rfl) (by rfl) (by decide) (by decide) (fun _ => rfl) ?_) | (with_unfolding_all refine ListComp_F (cl := []) (by rfl) (by rfl) (by decide) (by decide) (fun _ => rfl) ?_)) | ((with_reducible show wpAny _ _ _ _ _ _); walk1) | ((with_reducible show ite _ _ _); walk1)))
    refine ⟨sa, vs.toArray, none, some 14, rfl, hL1, by rw [List.size_toArray, hi.length, sizeLine_eq]; omega, .none, .int _ _, ?_⟩
    obtain ⟨I2, fD⟩ := I1.slice .none (.int 14 (s1.toks + 1 + 1)) (slicePick vs.toArray none (some 14) none)
    generalize slicePick vs.toArray none (some 14) none = its at *
    generalize hD : s1.heap.objs.size + 1 = D at *
    dsimp only
    generalize (s1.heap.push _).push _ = h2 at *
    refine iterT I2 (.head _) fun s3 it io ho I3 fit3 => ?_
    refine newListT' I3 fun s4 da I4 fda hda => ?_
    have dD : D ≠ da := hda _ (.tail _ (.head _))
    have dI : it ≠ da := hda _ (.head _)
    intro s5 n5 hs5 g5 o5
    have I5 := I4.reframe n5 hs5
    rw [← g5, ← o5] at I5
    generalize hC : s4.heap.objs.size = C at *
    have I5' := (I5.i.has _ (.tail _ (.head _))).1
    refine (fun loop => codeAny_compStart_list loop (wpAny_pyIter_listiter ⟨_, I5', ho.1, ho.2⟩ loop)) ?_
    clear I5'
    have small := hnum.length
    rw [List.length_take, Array.length_toList] at small
    refine codeAny_compLoop_list (I := fun k s' => ∃ i, k = its.size - i ∧ TxInv w s C da it D its i s'.heap s'.gens s'.os) ?turn its.size ?init (fun _ => rfl)
    case init =>
      refine ⟨0, rfl, ⟨_, #[], 0, [], io, I5.mono fun p hp => ?_, ho, .nil, rfl, fun _ hp => nomatch hp⟩, Nat.zero_le _⟩
      rcases List.mem_cons.mp hp with rfl | hp
      · exact .tail _ (.head _)
      · rcases List.mem_cons.mp hp with rfl | hp
        · exact .head _
        · exact .tail _ (.tail _ hp)
    case turn =>
      clear I5 I4 I3 I2 I1
      rintro k s6 ⟨i, rfl, ⟨m, vs, n', ys, io, I, ho, hys, hlen, hone⟩, hle⟩
      have dis : ∀ p ∈ [(da, listOf vs n'), (D, listOf its 0)], p.2.cls ≠ .type "list_iterator" := fun p hp => by
        rcases List.mem_cons.mp hp with rfl | hp
        · exact (show Value.type "list" ≠ .type "list_iterator" by decide)
        · rcases List.mem_cons.mp hp with rfl | hp
          · exact (show Value.type "list" ≠ .type "list_iterator" by decide)
          · cases hp
      by_cases hlt : i < its.size
      · obtain ⟨z, u, hz⟩ := ints_get (i := i) hnum (by rw [Array.getElem?_toList]; exact Array.getElem?_eq_getElem hlt)
        refine lsnextT I ho fit3 dis (.tail _ (.head _)) (Array.getElem?_eq_getElem hlt) fun s7 io' ho' I7 => ?_
        dsimp only
        rw [hz]
        clear I
        (repeat' (first | ((with_reducible show wpAny _ _ (eval (Expr.Name _ _) _) _ _ _); first | with_reducible (first | refine ldT (by assumption) (by ((repeat (first | assumption | exact upd_same | refine Eq.trans (upd_ne (by decide)) ?_)); all_goals rfl)) ?_) | (first | refine ldT (by assumption) (by ((repeat (first | assumption | exact upd_same | refine Eq.trans (upd_ne (by decide)) ?_)); all_goals rfl)) ?_)) | ((with_reducible show wpAny _ _ (eval (Expr.Subscript _ _ _) _) _ _ _); first | with_reducible (refine wpAny_Subscript_list_slice (ht := by with_unfolding_all (intro _ _; rfl)) ?_) | (refine wpAny_Subscript_list_slice (ht := by with_unfolding_all (intro _ _; rfl)) ?_)) | ((with_reducible show wpAny _ _ (subscriptTail _ _ _ _) _ _ _); first | with_reducible (refine KXi.item (n := 6) (by with_unfolding_all rfl) (Int.le_trans (by decide) (fmod_lo _ (by decide))) (fmod_hi _ (by decide)) (by decide) (hs := by with_unfolding_all rfl) (ht := by with_unfolding_all (intro _; rfl)) ?_) | (refine KXi.item (n := 6) (by with_unfolding_all rfl) (Int.le_trans (by decide) (fmod_lo _ (by decide))) (fmod_hi _ (by decide)) (by decide) (hs := by with_unfolding_all rfl) (ht := by with_unfolding_all (intro _; rfl)) ?_)) | ((with_reducible show wpAny _ _ (call (Value.builtin "str.join") _ _) _ _ _); first | with_reducible ((refine join_listW (by assumption) (by assumption) (by decide) (sum_one (by assumption) (by omega)) ?_; intro _ _)) | ((refine join_listW (by assumption) (by assumption) (by decide) (sum_one (by assumption) (by omega)) ?_; intro _ _))) | ((with_reducible show wpAny _ _ (storeName _ _ _) _ _ _); first | with_reducible ((refine stT (by assumption) ?_; intro _ _)) | ((refine stT (by assumption) ?_; intro _ _))) | ((with_reducible show wpAny _ _ (newList _) _ _ _); first | with_reducible ((refine newListT (by assumption) ?_; intro _ _ _ _)) | ((refine newListT (by assumption) ?_; intro _ _ _ _))) | ((with_reducible show wpAny _ _ (eval (Expr.ListComp _ _ _ _) _) _ _ _); first | with_reducible (with_unfolding_all refine ListComp_F (cl := []) (by rfl) (by rfl) (by decide) (by decide) (fun _ => rfl) ?_) | (with_unfolding_all refine ListComp_F (cl := []) (by rfl) (by rfl) (by decide) (by decide) (fun _ => rfl) ?_)) | ((with_reducible show wpAny _ _ _ _ _ _); walk1) | ((with_reducible show ite _ _ _); walk1)))
        intro e1
        rename_i s8 I8
        have I8' : InT w s C (upd m (Str.ofString "number") (Value.int z u)) [(it, io'), (da, listOf vs n'), (D, listOf its 0)] s8.heap s8.gens s8.os := I8
        clear I8
        refine appendT' (its := vs) (n := n') (N := [(it, io'), (D, listOf its 0)]) (I8'.mono fun p hp => ?_) fda (fun p hp => ?_) (fun s9 I9 => ?_) ?_
        · rcases List.mem_cons.mp hp with rfl | hp
          · exact .tail _ (.head _)
          · rcases List.mem_cons.mp hp with rfl | hp
            · exact .head _
            · exact .tail _ (.tail _ hp)
        · rcases List.mem_cons.mp hp with rfl | hp
          · exact dI
          · rcases List.mem_cons.mp hp with rfl | hp
            · exact dD
            · cases hp
        · obtain ⟨tk, I9⟩ : ∃ tk : Tok, InT w s C (upd m (Str.ofString "number") (Value.int z u)) [(da, listOf (vs.push (.str (Txt.item (Str.ofString "a= b =") (z.fmod 6)) tk)) (n' + 1)), (it, io'), (D, listOf its 0)] s9.heap s9.gens s9.os := ⟨_, I9⟩
          refine ⟨its.size - (i + 1), by omega, i + 1, rfl, ⟨_, vs.push (.str (Txt.item (Str.ofString "a= b =") (z.fmod 6)) tk), n' + 1, ys ++ [Txt.item (Str.ofString "a= b =") (z.fmod 6)], io', I9.mono fun p hp => ?_, ho', by rw [Array.toList_push]; exact strs_push hys, by rw [List.length_append, hlen]; rfl, fun y hy => ?_⟩, by omega⟩
          · rcases List.mem_cons.mp hp with rfl | hp
            · exact .tail _ (.head _)
            · rcases List.mem_cons.mp hp with rfl | hp
              · exact .head _
              · exact .tail _ (.tail _ hp)
          · rcases List.mem_append.mp hy with hy | hy
            · exact hone y hy
            · rw [List.mem_singleton.mp hy]; exact item_one _ (fmod_lo _ (by decide)) (fmod_hi _ (by decide))
        · have := hys.length
          rw [Array.length_toList, hlen] at this
          rw [this, sizeLine_eq]; omega
      · refine lsendT I ho fit3 dis fA.hd (.tail _ (.head _)) (Array.getElem?_eq_none (by omega)) fun s7 I7 => ?_
        dsimp only
        refine ⟨m, I7.i.ns, fun h' hs' => ?_⟩
        obtain ⟨kp, hN⟩ := InT.drop (t0 := tab) I7 hs'
        have hda' : h'.IsList da vs := ⟨_, hN _ (.head _), rfl, _, rfl⟩
        have gd := text_good ys hone (by omega)
        (repeat' (first | ((with_reducible show wpAny _ _ (eval (Expr.Name _ _) _) _ _ _); first | with_reducible (first | refine ldT (by assumption) (by ((repeat (first | assumption | exact upd_same | refine Eq.trans (upd_ne (by decide)) ?_)); all_goals rfl)) ?_) | (first | refine ldT (by assumption) (by ((repeat (first | assumption | exact upd_same | refine Eq.trans (upd_ne (by decide)) ?_)); all_goals rfl)) ?_)) | ((with_reducible show wpAny _ _ (eval (Expr.Subscript _ _ _) _) _ _ _); first | with_reducible (refine wpAny_Subscript_list_slice (ht := by with_unfolding_all (intro _ _; rfl)) ?_) | (refine wpAny_Subscript_list_slice (ht := by with_unfolding_all (intro _ _; rfl)) ?_)) | ((with_reducible show wpAny _ _ (subscriptTail _ _ _ _) _ _ _); first | with_reducible (refine KXi.item (n := 6) (by with_unfolding_all rfl) (Int.le_trans (by decide) (fmod_lo _ (by decide))) (fmod_hi _ (by decide)) (by decide) (hs := by with_unfolding_all rfl) (ht := by with_unfolding_all (intro _; rfl)) ?_) | (refine KXi.item (n := 6) (by with_unfolding_all rfl) (Int.le_trans (by decide) (fmod_lo _ (by decide))) (fmod_hi _ (by decide)) (by decide) (hs := by with_unfolding_all rfl) (ht := by with_unfolding_all (intro _; rfl)) ?_)) | ((with_reducible show wpAny _ _ (call (Value.builtin "str.join") _ _) _ _ _); first | with_reducible ((refine join_listW (by assumption) (by assumption) (by decide) (sum_one (by assumption) (by omega)) ?_; intro _ _)) | ((refine join_listW (by assumption) (by assumption) (by decide) (sum_one (by assumption) (by omega)) ?_; intro _ _))) | ((with_reducible show wpAny _ _ (storeName _ _ _) _ _ _); first | with_reducible ((refine stT (by assumption) ?_; intro _ _)) | ((refine stT (by assumption) ?_; intro _ _))) | ((with_reducible show wpAny _ _ (newList _) _ _ _); first | with_reducible ((refine newListT (by assumption) ?_; intro _ _ _ _)) | ((refine newListT (by assumption) ?_; intro _ _ _ _))) | ((with_reducible show wpAny _ _ (eval (Expr.ListComp _ _ _ _) _) _ _ _); first | with_reducible (with_unfolding_all refine ListComp_F (cl := []) (by rfl) (by rfl) (by decide) (by decide) (fun _ => rfl) ?_) | (with_unfolding_all refine ListComp_F (cl := []) (by rfl) (by rfl) (by decide) (by decide) (fun _ => rfl) ?_)) | ((with_reducible show wpAny _ _ _ _ _ _); walk1) | ((with_reducible show ite _ _ _); walk1)))
        exact ⟨_, _, rfl, gd.1, kp, I7.i.gens, I7.i.os⟩
end
end Mine

end
section
open PySem PySem.W PySem.W.X PyProof.Rows PySem.Calls PySem.SeqAt
set_option maxRecDepth 100000
namespace Mine
section
variable {A : Around} {s : Shared} {T U : List (Addr × Obj)} {l : List (Nat × Nat)}
theorem val_eq {x : Option (Nat × Nat)} {v u : Value} (hu : A.units < cLine) (hv : ValOk T x v) (hw : ValOk U x u) (hT : ∀ p ∈ T, s.heap.get? p.1 = some p.2 ∧ hasCls p.2 = true) (hU : ∀ p ∈ U, s.heap.get? p.1 = some p.2 ∧ hasCls p.2 = true) : EqAt A s v u true := by
  cases x with
  | none =>
    obtain rfl : v = .none := hv
    obtain rfl : u = .none := hw
    exact .same _
  | some q =>
    obtain ⟨f, b⟩ := q
    obtain ⟨p, tf, tb, rfl, hp⟩ := hv
    obtain ⟨p', tf', tb', rfl, hp'⟩ := hw
    by_cases e : p = p'
    · subst e; exact .same _
    · have r := RcAt.tuples (A := A) (s := s) (e := fun _ => true) (items := #[.int f tf, .int b tb]) (items2 := #[.int f tf', .int b tb']) ⟨_, (hT _ hp).1, rfl, _, rfl⟩ ⟨_, (hU _ hp').1, rfl, _, rfl⟩ hu (fun j h1 h2 => by
        have h1' : j < 2 := h1
        have : j = 0 ∨ j = 1 := by omega
        rcases this with rfl | rfl
        · have := EqAt.int_int (A := A.in1) (s := s) (f : Int) tf (f : Int) tf'
          rw [beq_self_eq_true] at this
          exact this
        · have := EqAt.int_int (A := A.in1) (s := s) (b : Int) tb (b : Int) tb'
          rw [beq_self_eq_true] at this
          exact this)
      exact .of_refs e r
theorem row_eq {prog : Program} {w : World} {E : Value → Shared → Prop} {a b : Addr} {vs us : Array Value} {k k' c : Nat} {Q : Value → Shared → Prop} (hu : A.units + 1 < cLine) (ha : s.heap.get? a = some (listOf vs k)) (hb : s.heap.get? b = some (listOf us k')) (cv : vs.size = c) (cu : us.size = c)
    (hv : ListOk T l vs) (hw : ListOk U l us) (hT : ∀ p ∈ T, s.heap.get? p.1 = some p.2 ∧ hasCls p.2 = true) (hU : ∀ p ∈ U, s.heap.get? p.1 = some p.2 ∧ hasCls p.2 = true) (h : Q (.bool true) s) : wpAny (model prog w) A (compareOp .Eq (.ref a) (.ref b)) Q E s := by
  refine eq_listAt (e := fun _ => true) ⟨_, ha, rfl, _, rfl⟩ ⟨_, hb, rfl, _, rfl⟩ (cv.trans cu.symm) (Nat.lt_of_succ_lt hu) (fun j h1 h2 => ?_) ?_
  · exact val_eq (A := A.in1) hu (hv j _ (Array.getElem?_eq_getElem h1)) (hw j _ (Array.getElem?_eq_getElem h2)) hT hU
  · rw [show (List.range vs.size).all (fun _ => true) = true from List.all_eq_true.mpr fun _ _ => rfl]; exact h
end
end Mine

end
section
open PySem PySem.W PySem.W.X PyProof.Rows PySem.Calls
set_option maxRecDepth 100000
namespace Mine
section
set_option maxHeartbeats 4000000 in
theorem law_code {A : Around} {n : Nat} (fit : Fit (n + 6) A) (hfr : A.frames = some []) (w : World) (s : Shared) (sa : Addr) (vs : List Value) (ns : List Int) (ok : Ok w s.heap) (tab : Tab s.heap) (hsa : s.heap.IsList sa vs.toArray) (hi : IntsAre vs ns) (hns : ns.length ≤ 63)
    (R : Result → Shared → Prop) (hR : ∀ s', Step s s' → Ok w s'.heap → R (.ok (.ret (.bool true))) s') : codeC (model PW w) A (.call (.ref 225) ⟨[.ref sa], []⟩) R s := by
  refine' enterC (name := "law") (qual := "law") (params := parsOf 16) (body := _) (scope := _) (dV := .none) (kV := .none) (doc := .none) (pm := .str "law_il0124_01" 422) (cdv := .ref 224) (ct := .none) (an := none) (od := none)
    (binds := [("script", .ref sa)]) fit ok ?hl ?hcd ?hb ?hloc ?hcell ?h ?h1 ?h2 ?h3
  case hl => exact (by kernel_rfl : (K w.params).lookup 225 = some { cls := .type "function", data := .func (fnOf "law" "law" (parsOf 16) (bodyOf 16) (scopeOf 16) .none .none .none (.str "law_il0124_01" 422) none (.ref 224) .none) })
  case hcd => kernel_rfl
  case hloc => rfl
  case hcell => decide
  case h1 => rfl
  case h2 => rfl
  case h3 => rfl
  case hb => exact BindsTo.of_eq rfl
  case h =>
    intro s1 I0 k1
    have I1 : InT w s _ _ _ _ _ _ := ⟨I0, tab.keeps k1⟩
    clear I0
    have hL1 : s1.heap.IsList sa vs.toArray := let ⟨o, e, r⟩ := hsa; ⟨o, k1 _ _ e, r⟩
    generalize hB : bodyOf 16 = B
    generalize hS : scopeOf 16 = S
    conv at hB => lhs; whnf
    conv at hS => lhs; whnf
    subst hB hS
    generalize hE : envOf _ _ _ 225 _ = env'
    have hAf : (A.deeper env').frames = some [env'] := by
      show pushEnvs [env'] A.frames = _
      rw [hfr]; rfl
    have fA : Fit (n + 5) (A.deeper env') := fit.deeper
    generalize hA : A.deeper env' = A' at *
    subst hE
    refine C_execs (wpC_any ?_)
    (repeat' (first | ((with_reducible show wpAny _ _ (eval (Expr.Name _ _) _) _ _ _); first | with_reducible (first | refine ldT (by assumption) (by ((repeat (first | assumption | exact upd_same | refine Eq.trans (upd_ne (by decide)) ?_)); all_goals rfl)) ?_ | refine ldE (by assumption) (by ((repeat (first | assumption | exact upd_same | refine Eq.trans (upd_ne (by decide)) ?_)); all_goals rfl)) ?_ | refine glE (InT.i (by assumption)) (g_law_text _) ?_ | refine glE (InT.i (by assumption)) (g_law_spans _) ?_ | refine glE (InT.i (by assumption)) (g_law_told _) ?_ | refine glE (InT.i (by assumption)) (g_law_prog _) ?_ | refine glE (by assumption) (g_law_due _) ?_) | (first | refine ldT (by assumption) (by ((repeat (first | assumption | exact upd_same | refine Eq.trans (upd_ne (by decide)) ?_)); all_goals rfl)) ?_ | refine ldE (by assumption) (by ((repeat (first | assumption | exact upd_same | refine Eq.trans (upd_ne (by decide)) ?_)); all_goals rfl)) ?_ | refine glE (InT.i (by assumption)) (g_law_text _) ?_ | refine glE (InT.i (by assumption)) (g_law_spans _) ?_ | refine glE (InT.i (by assumption)) (g_law_told _) ?_ | refine glE (InT.i (by assumption)) (g_law_prog _) ?_ | refine glE (by assumption) (g_law_due _) ?_)) | ((with_reducible show wpAny _ _ (storeName _ _ _) _ _ _); first | with_reducible ((refine stT (by assumption) ?_; intro _ _)) | ((refine stT (by assumption) ?_; intro _ _))) | ((with_reducible show wpAny _ _ _ _ _ _); walk1) | ((with_reducible show ite _ _ _); walk1)))
    refine callWith_K I1.i.ok.k (by kernel_rfl) ?_
    (repeat' (first | ((with_reducible show wpAny _ _ (eval (Expr.Name _ _) _) _ _ _); first | with_reducible (first | refine ldT (by assumption) (by ((repeat (first | assumption | exact upd_same | refine Eq.trans (upd_ne (by decide)) ?_)); all_goals rfl)) ?_ | refine ldE (by assumption) (by ((repeat (first | assumption | exact upd_same | refine Eq.trans (upd_ne (by decide)) ?_)); all_goals rfl)) ?_ | refine glE (InT.i (by assumption)) (g_law_text _) ?_ | refine glE (InT.i (by assumption)) (g_law_spans _) ?_ | refine glE (InT.i (by assumption)) (g_law_told _) ?_ | refine glE (InT.i (by assumption)) (g_law_prog _) ?_ | refine glE (by assumption) (g_law_due _) ?_) | (first | refine ldT (by assumption) (by ((repeat (first | assumption | exact upd_same | refine Eq.trans (upd_ne (by decide)) ?_)); all_goals rfl)) ?_ | refine ldE (by assumption) (by ((repeat (first | assumption | exact upd_same | refine Eq.trans (upd_ne (by decide)) ?_)); all_goals rfl)) ?_ | refine glE (InT.i (by assumption)) (g_law_text _) ?_ | refine glE (InT.i (by assumption)) (g_law_spans _) ?_ | refine glE (InT.i (by assumption)) (g_law_told _) ?_ | refine glE (InT.i (by assumption)) (g_law_prog _) ?_ | refine glE (by assumption) (g_law_due _) ?_)) | ((with_reducible show wpAny _ _ (storeName _ _ _) _ _ _); first | with_reducible ((refine stT (by assumption) ?_; intro _ _)) | ((refine stT (by assumption) ?_; intro _ _))) | ((with_reducible show wpAny _ _ _ _ _ _); walk1) | ((with_reducible show ite _ _ _); walk1)))
    refine ⟨I1.i.ok.k, wpAny_call (codeAny_mono (text_code (n := n + 3) fA w _ sa vs ns I1.i.ok I1.t hL1 hi hns) fun r s2 h => ?_)⟩
    obtain ⟨t, tt, rfl, g, k2, g2, o2⟩ := h
    have I2 := InT.keep (s := s1) I1 k2 g2 o2
    clear I1
    dsimp only
    (repeat' (first | ((with_reducible show wpAny _ _ (eval (Expr.Name _ _) _) _ _ _); first | with_reducible (first | refine ldT (by assumption) (by ((repeat (first | assumption | exact upd_same | refine Eq.trans (upd_ne (by decide)) ?_)); all_goals rfl)) ?_ | refine ldE (by assumption) (by ((repeat (first | assumption | exact upd_same | refine Eq.trans (upd_ne (by decide)) ?_)); all_goals rfl)) ?_ | refine glE (InT.i (by assumption)) (g_law_text _) ?_ | refine glE (InT.i (by assumption)) (g_law_spans _) ?_ | refine glE (InT.i (by assumption)) (g_law_told _) ?_ | refine glE (InT.i (by assumption)) (g_law_prog _) ?_ | refine glE (by assumption) (g_law_due _) ?_) | (first | refine ldT (by assumption) (by ((repeat (first | assumption | exact upd_same | refine Eq.trans (upd_ne (by decide)) ?_)); all_goals rfl)) ?_ | refine ldE (by assumption) (by ((repeat (first | assumption | exact upd_same | refine Eq.trans (upd_ne (by decide)) ?_)); all_goals rfl)) ?_ | refine glE (InT.i (by assumption)) (g_law_text _) ?_ | refine glE (InT.i (by assumption)) (g_law_spans _) ?_ | refine glE (InT.i (by assumption)) (g_law_told _) ?_ | refine glE (InT.i (by assumption)) (g_law_prog _) ?_ | refine glE (by assumption) (g_law_due _) ?_)) | ((with_reducible show wpAny _ _ (storeName _ _ _) _ _ _); first | with_reducible ((refine stT (by assumption) ?_; intro _ _)) | ((refine stT (by assumption) ?_; intro _ _))) | ((with_reducible show wpAny _ _ _ _ _ _); walk1) | ((with_reducible show ite _ _ _); walk1)))
    rename_i s3 I3
    refine C_execs (C_AssignName rfl (C_CallName ?_))
    (repeat' (first | ((with_reducible show wpAny _ _ (eval (Expr.Name _ _) _) _ _ _); first | with_reducible (first | refine ldT (by assumption) (by ((repeat (first | assumption | exact upd_same | refine Eq.trans (upd_ne (by decide)) ?_)); all_goals rfl)) ?_ | refine ldE (by assumption) (by ((repeat (first | assumption | exact upd_same | refine Eq.trans (upd_ne (by decide)) ?_)); all_goals rfl)) ?_ | refine glE (InT.i (by assumption)) (g_law_text _) ?_ | refine glE (InT.i (by assumption)) (g_law_spans _) ?_ | refine glE (InT.i (by assumption)) (g_law_told _) ?_ | refine glE (InT.i (by assumption)) (g_law_prog _) ?_ | refine glE (by assumption) (g_law_due _) ?_) | (first | refine ldT (by assumption) (by ((repeat (first | assumption | exact upd_same | refine Eq.trans (upd_ne (by decide)) ?_)); all_goals rfl)) ?_ | refine ldE (by assumption) (by ((repeat (first | assumption | exact upd_same | refine Eq.trans (upd_ne (by decide)) ?_)); all_goals rfl)) ?_ | refine glE (InT.i (by assumption)) (g_law_text _) ?_ | refine glE (InT.i (by assumption)) (g_law_spans _) ?_ | refine glE (InT.i (by assumption)) (g_law_told _) ?_ | refine glE (InT.i (by assumption)) (g_law_prog _) ?_ | refine glE (by assumption) (g_law_due _) ?_)) | ((with_reducible show wpAny _ _ (storeName _ _ _) _ _ _); first | with_reducible ((refine stT (by assumption) ?_; intro _ _)) | ((refine stT (by assumption) ?_; intro _ _))) | ((with_reducible show wpAny _ _ _ _ _ _); walk1) | ((with_reducible show ite _ _ _); walk1)))
    refine C_callWith (evalArgs_1 rfl ?_)
    (repeat' (first | ((with_reducible show wpAny _ _ (eval (Expr.Name _ _) _) _ _ _); first | with_reducible (first | refine ldT (by assumption) (by ((repeat (first | assumption | exact upd_same | refine Eq.trans (upd_ne (by decide)) ?_)); all_goals rfl)) ?_ | refine ldE (by assumption) (by ((repeat (first | assumption | exact upd_same | refine Eq.trans (upd_ne (by decide)) ?_)); all_goals rfl)) ?_ | refine glE (InT.i (by assumption)) (g_law_text _) ?_ | refine glE (InT.i (by assumption)) (g_law_spans _) ?_ | refine glE (InT.i (by assumption)) (g_law_told _) ?_ | refine glE (InT.i (by assumption)) (g_law_prog _) ?_ | refine glE (by assumption) (g_law_due _) ?_) | (first | refine ldT (by assumption) (by ((repeat (first | assumption | exact upd_same | refine Eq.trans (upd_ne (by decide)) ?_)); all_goals rfl)) ?_ | refine ldE (by assumption) (by ((repeat (first | assumption | exact upd_same | refine Eq.trans (upd_ne (by decide)) ?_)); all_goals rfl)) ?_ | refine glE (InT.i (by assumption)) (g_law_text _) ?_ | refine glE (InT.i (by assumption)) (g_law_spans _) ?_ | refine glE (InT.i (by assumption)) (g_law_told _) ?_ | refine glE (InT.i (by assumption)) (g_law_prog _) ?_ | refine glE (by assumption) (g_law_due _) ?_)) | ((with_reducible show wpAny _ _ (storeName _ _ _) _ _ _); first | with_reducible ((refine stT (by assumption) ?_; intro _ _)) | ((refine stT (by assumption) ?_; intro _ _))) | ((with_reducible show wpAny _ _ _ _ _ _); walk1) | ((with_reducible show ite _ _ _); walk1)))
    obtain ⟨kpr, _, lk⟩ := looks_keep (M := model PW w) (f := .ref 199) (by kernel_rfl) I3.i.ok.k
    refine ⟨kpr, lk, wpC_call (spans_code (n := n + 1) fA _ s.heap.objs.size hAf rfl (fun z => by cases z) w _ t tt I3.i.ok I3.t _ I3.i.ns I3.i.kne I3.i.k0 g _ fun s4 la sv c T l k4 n4 g4 o4 e4 eT hS hC nla nT => ?_)⟩
    dsimp only
    have ne : ∀ b o, s.heap.get? b = some o → b ≠ s.heap.objs.size := fun b o e => Nat.ne_of_lt (Heap.lt_size e)
    have lT := I3.i.ok.apart I3.i.ns
    have t4 : Tab s4.heap := ⟨k4 _ _ lT.1.symm I3.t.a, k4 _ _ lT.2.symm I3.t.b⟩
    have I4 : InT w s s.heap.objs.size _ ((la, listOf sv c) :: T) s4.heap s4.gens s4.os := ⟨⟨n4, I3.i.fresh, I3.i.ok₀, fun b o c e => k4 b o (ne b o e) (I3.i.ext b o c e), fun b o e => let ⟨o', e'⟩ := I3.i.there b o e; ⟨o', k4 b o' (ne b o e) e'⟩, g4.trans I3.i.gens, o4.trans I3.i.os,
      ⟨fun a o l => k4 a o (I3.i.kne a o l) (I3.i.ok.k a o l), .inl t4.a, ⟨_, t4.b⟩, I3.i.ok.b.at fun _ e => k4 _ _ I3.i.k0 e⟩, fun p hp => by
        rcases List.mem_cons.mp hp with rfl | hp
        · exact ⟨e4, nla, rfl⟩
        · exact ⟨(eT p hp).1, nT p hp, (eT p hp).2⟩⟩, t4⟩
    clear I3 I2
    (repeat' (first | ((with_reducible show wpAny _ _ (eval (Expr.Name _ _) _) _ _ _); first | with_reducible (first | refine ldT (by assumption) (by ((repeat (first | assumption | exact upd_same | refine Eq.trans (upd_ne (by decide)) ?_)); all_goals rfl)) ?_ | refine ldE (by assumption) (by ((repeat (first | assumption | exact upd_same | refine Eq.trans (upd_ne (by decide)) ?_)); all_goals rfl)) ?_ | refine glE (InT.i (by assumption)) (g_law_text _) ?_ | refine glE (InT.i (by assumption)) (g_law_spans _) ?_ | refine glE (InT.i (by assumption)) (g_law_told _) ?_ | refine glE (InT.i (by assumption)) (g_law_prog _) ?_ | refine glE (by assumption) (g_law_due _) ?_) | (first | refine ldT (by assumption) (by ((repeat (first | assumption | exact upd_same | refine Eq.trans (upd_ne (by decide)) ?_)); all_goals rfl)) ?_ | refine ldE (by assumption) (by ((repeat (first | assumption | exact upd_same | refine Eq.trans (upd_ne (by decide)) ?_)); all_goals rfl)) ?_ | refine glE (InT.i (by assumption)) (g_law_text _) ?_ | refine glE (InT.i (by assumption)) (g_law_spans _) ?_ | refine glE (InT.i (by assumption)) (g_law_told _) ?_ | refine glE (InT.i (by assumption)) (g_law_prog _) ?_ | refine glE (by assumption) (g_law_due _) ?_)) | ((with_reducible show wpAny _ _ (storeName _ _ _) _ _ _); first | with_reducible ((refine stT (by assumption) ?_; intro _ _)) | ((refine stT (by assumption) ?_; intro _ _))) | ((with_reducible show wpAny _ _ _ _ _ _); walk1) | ((with_reducible show ite _ _ _); walk1)))
    rename_i s5 I5
    refine wpC_any ?_
    (repeat' (first | ((with_reducible show wpAny _ _ (eval (Expr.Name _ _) _) _ _ _); first | with_reducible (first | refine ldT (by assumption) (by ((repeat (first | assumption | exact upd_same | refine Eq.trans (upd_ne (by decide)) ?_)); all_goals rfl)) ?_ | refine ldE (by assumption) (by ((repeat (first | assumption | exact upd_same | refine Eq.trans (upd_ne (by decide)) ?_)); all_goals rfl)) ?_ | refine glE (InT.i (by assumption)) (g_law_text _) ?_ | refine glE (InT.i (by assumption)) (g_law_spans _) ?_ | refine glE (InT.i (by assumption)) (g_law_told _) ?_ | refine glE (InT.i (by assumption)) (g_law_prog _) ?_ | refine glE (by assumption) (g_law_due _) ?_) | (first | refine ldT (by assumption) (by ((repeat (first | assumption | exact upd_same | refine Eq.trans (upd_ne (by decide)) ?_)); all_goals rfl)) ?_ | refine ldE (by assumption) (by ((repeat (first | assumption | exact upd_same | refine Eq.trans (upd_ne (by decide)) ?_)); all_goals rfl)) ?_ | refine glE (InT.i (by assumption)) (g_law_text _) ?_ | refine glE (InT.i (by assumption)) (g_law_spans _) ?_ | refine glE (InT.i (by assumption)) (g_law_told _) ?_ | refine glE (InT.i (by assumption)) (g_law_prog _) ?_ | refine glE (by assumption) (g_law_due _) ?_)) | ((with_reducible show wpAny _ _ (storeName _ _ _) _ _ _); first | with_reducible ((refine stT (by assumption) ?_; intro _ _)) | ((refine stT (by assumption) ?_; intro _ _))) | ((with_reducible show wpAny _ _ _ _ _ _); walk1) | ((with_reducible show ite _ _ _); walk1)))
    refine callWith_K I5.i.ok.k (by kernel_rfl) ?_
    (repeat' (first | ((with_reducible show wpAny _ _ (eval (Expr.Name _ _) _) _ _ _); first | with_reducible (first | refine ldT (by assumption) (by ((repeat (first | assumption | exact upd_same | refine Eq.trans (upd_ne (by decide)) ?_)); all_goals rfl)) ?_ | refine ldE (by assumption) (by ((repeat (first | assumption | exact upd_same | refine Eq.trans (upd_ne (by decide)) ?_)); all_goals rfl)) ?_ | refine glE (InT.i (by assumption)) (g_law_text _) ?_ | refine glE (InT.i (by assumption)) (g_law_spans _) ?_ | refine glE (InT.i (by assumption)) (g_law_told _) ?_ | refine glE (InT.i (by assumption)) (g_law_prog _) ?_ | refine glE (by assumption) (g_law_due _) ?_) | (first | refine ldT (by assumption) (by ((repeat (first | assumption | exact upd_same | refine Eq.trans (upd_ne (by decide)) ?_)); all_goals rfl)) ?_ | refine ldE (by assumption) (by ((repeat (first | assumption | exact upd_same | refine Eq.trans (upd_ne (by decide)) ?_)); all_goals rfl)) ?_ | refine glE (InT.i (by assumption)) (g_law_text _) ?_ | refine glE (InT.i (by assumption)) (g_law_spans _) ?_ | refine glE (InT.i (by assumption)) (g_law_told _) ?_ | refine glE (InT.i (by assumption)) (g_law_prog _) ?_ | refine glE (by assumption) (g_law_due _) ?_)) | ((with_reducible show wpAny _ _ (storeName _ _ _) _ _ _); first | with_reducible ((refine stT (by assumption) ?_; intro _ _)) | ((refine stT (by assumption) ?_; intro _ _))) | ((with_reducible show wpAny _ _ _ _ _ _); walk1) | ((with_reducible show ite _ _ _); walk1)))
    refine callWith_K0 I5.i.ok.k (by kernel_rfl) (wpAny_mono (prog_call fA w _ _ I5.i.ok I5.t.a I5.t.b) (fun v s6 hs => ?_) (fun _ _ x => x))
    obtain ⟨pa, pobjs, rfl, st6, ok6, md, calm, hP⟩ := hs
    have I6 := I5.i.more (I5.i.call st6 ok6) md
    clear I4
    have hsm := g.small
    have hn : t.length ≤ 1048576 := by omega
    (repeat' (first | ((with_reducible show wpAny _ _ (eval (Expr.Name _ _) _) _ _ _); first | with_reducible (first | refine ldT (by assumption) (by ((repeat (first | assumption | exact upd_same | refine Eq.trans (upd_ne (by decide)) ?_)); all_goals rfl)) ?_ | refine ldE (by assumption) (by ((repeat (first | assumption | exact upd_same | refine Eq.trans (upd_ne (by decide)) ?_)); all_goals rfl)) ?_ | refine glE (InT.i (by assumption)) (g_law_text _) ?_ | refine glE (InT.i (by assumption)) (g_law_spans _) ?_ | refine glE (InT.i (by assumption)) (g_law_told _) ?_ | refine glE (InT.i (by assumption)) (g_law_prog _) ?_ | refine glE (by assumption) (g_law_due _) ?_) | (first | refine ldT (by assumption) (by ((repeat (first | assumption | exact upd_same | refine Eq.trans (upd_ne (by decide)) ?_)); all_goals rfl)) ?_ | refine ldE (by assumption) (by ((repeat (first | assumption | exact upd_same | refine Eq.trans (upd_ne (by decide)) ?_)); all_goals rfl)) ?_ | refine glE (InT.i (by assumption)) (g_law_text _) ?_ | refine glE (InT.i (by assumption)) (g_law_spans _) ?_ | refine glE (InT.i (by assumption)) (g_law_told _) ?_ | refine glE (InT.i (by assumption)) (g_law_prog _) ?_ | refine glE (by assumption) (g_law_due _) ?_)) | ((with_reducible show wpAny _ _ (storeName _ _ _) _ _ _); first | with_reducible ((refine stT (by assumption) ?_; intro _ _)) | ((refine stT (by assumption) ?_; intro _ _))) | ((with_reducible show wpAny _ _ _ _ _ _); walk1) | ((with_reducible show ite _ _ _); walk1)))
    refine ⟨I6.ok.k, wpAny_mono (told_call (n := n + 1) fA w _ t _ pa pobjs l I6.ok hn (fun p hp => have r := I6.has p (List.mem_append_left _ hp); ⟨r.1, r.2.2⟩) hP calm hC _) (fun v s7 hs => ?_) (fun _ _ x => x)⟩
    obtain ⟨ra, rv, rk, RT, rfl, st7, ok7, fr7, e7, sz7, lo7, rT7⟩ := hs
    have I7 := I6.call st7 ok7
    clear I6 I5
    (repeat' (first | ((with_reducible show wpAny _ _ (eval (Expr.Name _ _) _) _ _ _); first | with_reducible (first | refine ldT (by assumption) (by ((repeat (first | assumption | exact upd_same | refine Eq.trans (upd_ne (by decide)) ?_)); all_goals rfl)) ?_ | refine ldE (by assumption) (by ((repeat (first | assumption | exact upd_same | refine Eq.trans (upd_ne (by decide)) ?_)); all_goals rfl)) ?_ | refine glE (InT.i (by assumption)) (g_law_text _) ?_ | refine glE (InT.i (by assumption)) (g_law_spans _) ?_ | refine glE (InT.i (by assumption)) (g_law_told _) ?_ | refine glE (InT.i (by assumption)) (g_law_prog _) ?_ | refine glE (by assumption) (g_law_due _) ?_) | (first | refine ldT (by assumption) (by ((repeat (first | assumption | exact upd_same | refine Eq.trans (upd_ne (by decide)) ?_)); all_goals rfl)) ?_ | refine ldE (by assumption) (by ((repeat (first | assumption | exact upd_same | refine Eq.trans (upd_ne (by decide)) ?_)); all_goals rfl)) ?_ | refine glE (InT.i (by assumption)) (g_law_text _) ?_ | refine glE (InT.i (by assumption)) (g_law_spans _) ?_ | refine glE (InT.i (by assumption)) (g_law_told _) ?_ | refine glE (InT.i (by assumption)) (g_law_prog _) ?_ | refine glE (by assumption) (g_law_due _) ?_)) | ((with_reducible show wpAny _ _ (storeName _ _ _) _ _ _); first | with_reducible ((refine stT (by assumption) ?_; intro _ _)) | ((refine stT (by assumption) ?_; intro _ _))) | ((with_reducible show wpAny _ _ _ _ _ _); walk1) | ((with_reducible show ite _ _ _); walk1)))
    refine callWith_K I7.ok.k (by kernel_rfl) ?_
    (repeat' (first | ((with_reducible show wpAny _ _ (eval (Expr.Name _ _) _) _ _ _); first | with_reducible (first | refine ldT (by assumption) (by ((repeat (first | assumption | exact upd_same | refine Eq.trans (upd_ne (by decide)) ?_)); all_goals rfl)) ?_ | refine ldE (by assumption) (by ((repeat (first | assumption | exact upd_same | refine Eq.trans (upd_ne (by decide)) ?_)); all_goals rfl)) ?_ | refine glE (InT.i (by assumption)) (g_law_text _) ?_ | refine glE (InT.i (by assumption)) (g_law_spans _) ?_ | refine glE (InT.i (by assumption)) (g_law_told _) ?_ | refine glE (InT.i (by assumption)) (g_law_prog _) ?_ | refine glE (by assumption) (g_law_due _) ?_) | (first | refine ldT (by assumption) (by ((repeat (first | assumption | exact upd_same | refine Eq.trans (upd_ne (by decide)) ?_)); all_goals rfl)) ?_ | refine ldE (by assumption) (by ((repeat (first | assumption | exact upd_same | refine Eq.trans (upd_ne (by decide)) ?_)); all_goals rfl)) ?_ | refine glE (InT.i (by assumption)) (g_law_text _) ?_ | refine glE (InT.i (by assumption)) (g_law_spans _) ?_ | refine glE (InT.i (by assumption)) (g_law_told _) ?_ | refine glE (InT.i (by assumption)) (g_law_prog _) ?_ | refine glE (by assumption) (g_law_due _) ?_)) | ((with_reducible show wpAny _ _ (storeName _ _ _) _ _ _); first | with_reducible ((refine stT (by assumption) ?_; intro _ _)) | ((refine stT (by assumption) ?_; intro _ _))) | ((with_reducible show wpAny _ _ _ _ _ _); walk1) | ((with_reducible show ite _ _ _); walk1)))
    refine ⟨I7.ok.k, wpAny_mono (due_call (n := n + 3) fA w _ t _ T l sv c la I7.ok hn (I7.has _ (List.mem_append_right _ (.head _))).1 (fun p hp => have r := I7.has p (List.mem_append_right _ (.tail _ hp)); ⟨r.1, r.2.2⟩) hS _) (fun v s8 hs => ?_) (fun _ _ x => x)⟩
    obtain ⟨rb, rv', rk', RU, rfl, st8, ok8, fr8, e8, sz8, lo8, rT8⟩ := hs
    have I8 := I7.call st8 ok8
    clear I7
    (repeat' (first | ((with_reducible show wpAny _ _ (eval (Expr.Name _ _) _) _ _ _); first | with_reducible (first | refine ldT (by assumption) (by ((repeat (first | assumption | exact upd_same | refine Eq.trans (upd_ne (by decide)) ?_)); all_goals rfl)) ?_ | refine ldE (by assumption) (by ((repeat (first | assumption | exact upd_same | refine Eq.trans (upd_ne (by decide)) ?_)); all_goals rfl)) ?_ | refine glE (InT.i (by assumption)) (g_law_text _) ?_ | refine glE (InT.i (by assumption)) (g_law_spans _) ?_ | refine glE (InT.i (by assumption)) (g_law_told _) ?_ | refine glE (InT.i (by assumption)) (g_law_prog _) ?_ | refine glE (by assumption) (g_law_due _) ?_) | (first | refine ldT (by assumption) (by ((repeat (first | assumption | exact upd_same | refine Eq.trans (upd_ne (by decide)) ?_)); all_goals rfl)) ?_ | refine ldE (by assumption) (by ((repeat (first | assumption | exact upd_same | refine Eq.trans (upd_ne (by decide)) ?_)); all_goals rfl)) ?_ | refine glE (InT.i (by assumption)) (g_law_text _) ?_ | refine glE (InT.i (by assumption)) (g_law_spans _) ?_ | refine glE (InT.i (by assumption)) (g_law_told _) ?_ | refine glE (InT.i (by assumption)) (g_law_prog _) ?_ | refine glE (by assumption) (g_law_due _) ?_)) | ((with_reducible show wpAny _ _ (storeName _ _ _) _ _ _); first | with_reducible ((refine stT (by assumption) ?_; intro _ _)) | ((refine stT (by assumption) ?_; intro _ _))) | ((with_reducible show wpAny _ _ _ _ _ _); walk1) | ((with_reducible show ite _ _ _); walk1)))
    refine row_eq (by have := fA.units; unfold cLine; omega) (st8.ext.at rfl e7) e8 sz7 sz8 lo7 lo8 (fun p hp => ⟨st8.ext.at (rT7 p hp).2 (rT7 p hp).1, (rT7 p hp).2⟩) rT8 ?_
    (repeat' (first | ((with_reducible show wpAny _ _ (eval (Expr.Name _ _) _) _ _ _); first | with_reducible (first | refine ldT (by assumption) (by ((repeat (first | assumption | exact upd_same | refine Eq.trans (upd_ne (by decide)) ?_)); all_goals rfl)) ?_ | refine ldE (by assumption) (by ((repeat (first | assumption | exact upd_same | refine Eq.trans (upd_ne (by decide)) ?_)); all_goals rfl)) ?_ | refine glE (InT.i (by assumption)) (g_law_text _) ?_ | refine glE (InT.i (by assumption)) (g_law_spans _) ?_ | refine glE (InT.i (by assumption)) (g_law_told _) ?_ | refine glE (InT.i (by assumption)) (g_law_prog _) ?_ | refine glE (by assumption) (g_law_due _) ?_) | (first | refine ldT (by assumption) (by ((repeat (first | assumption | exact upd_same | refine Eq.trans (upd_ne (by decide)) ?_)); all_goals rfl)) ?_ | refine ldE (by assumption) (by ((repeat (first | assumption | exact upd_same | refine Eq.trans (upd_ne (by decide)) ?_)); all_goals rfl)) ?_ | refine glE (InT.i (by assumption)) (g_law_text _) ?_ | refine glE (InT.i (by assumption)) (g_law_spans _) ?_ | refine glE (InT.i (by assumption)) (g_law_told _) ?_ | refine glE (InT.i (by assumption)) (g_law_prog _) ?_ | refine glE (by assumption) (g_law_due _) ?_)) | ((with_reducible show wpAny _ _ (storeName _ _ _) _ _ _); first | with_reducible ((refine stT (by assumption) ?_; intro _ _)) | ((refine stT (by assumption) ?_; intro _ _))) | ((with_reducible show wpAny _ _ _ _ _ _); walk1) | ((with_reducible show ite _ _ _); walk1)))
    exact hR _ I8.step I8.ok
end
end Mine

end
section
open PySem PySem.W PySem.W.X PyProof.Rows PySem.Calls
set_option maxRecDepth 100000
namespace Mine
theorem tab172 {P : Params} {h : Heap} (X : (K P).In h) : isCodeTable h 172 := ⟨176, _, _, X 176 o176 (by kernel_rfl), rfl, rfl, rfl⟩
theorem tab187 {P : Params} {h : Heap} (X : (K P).In h) : isCodeTable h 187 := ⟨191, _, _, X 191 o191 (by kernel_rfl), rfl, rfl, rfl⟩
theorem oldK_of {w : World} {s s' : Shared} (st : Step s s') (ok : Ok w s.heap) (tab : Tab s.heap) (ok' : Ok w s'.heap) : OldK s.heap s'.heap := by
  refine ⟨fun b o e => ?_, st.there⟩
  by_cases h172 : b = 172
  · subst h172
    rw [tab.a] at e; cases e
    rcases ok'.t with t | ⟨c1, c2, t, _⟩
    · exact .inl t
    · exact .inr (.inl ⟨tab172 ok.k, rfl, #[], _, rfl, by rw [t, Array.empty_append]⟩)
  · by_cases h187 : b = 187
    · subst h187
      rw [tab.b] at e; cases e
      obtain ⟨vs, t⟩ := ok'.u
      exact .inr (.inl ⟨tab187 ok.k, rfl, #[], vs, rfl, by rw [t, Array.empty_append]⟩)
    · exact .inl (st.ext b o (.inr ⟨h172, h187⟩) e)
theorem tab_of {p : Program} {loose : List Str} {mean : ExcName → Option Value} {mg mb : Str → Option Value} {P : Params} {h : Heap} (X : (K P).In h) (T : Top p loose mean mg mb h) {nm : Str} {f c b : Addr} {of oc : Obj} {fd : FuncData} {cs : Array Value} (m : (recsOf p).any (fun d => d.name == nm) = true)
    (e : nsIn (K P) 3 nm = some (some (.ref f))) (l : (K P).lookup f = some of) (lc : (K P).lookup c = some oc) (df : of.data = .func fd) (cf : fd.code = .ref c) (dc : oc.data = .fields cs) (hc : cs[11]? = some (.ref b)) : h.get? b = some noTab := by
  obtain ⟨d, hd, en⟩ := List.any_eq_true.mp m
  obtain ⟨a, o, fd', c', P', h1, h2, h3, h4, _, ⟨o2, vs, a1, _, a3, a4⟩, h6⟩ := T.tab d hd
  rw [eq_of_beq en, ns_val X T.g e] at h1
  obtain rfl : f = a := Value.ref.inj (Option.some.inj h1)
  obtain rfl : of = o := Option.some.inj ((X _ _ l).symm.trans h2)
  obtain rfl : fd = fd' := PySem.Data.func.inj (df.symm.trans h3)
  obtain rfl : c = c' := Value.ref.inj (cf.symm.trans h4)
  obtain rfl : oc = o2 := Option.some.inj ((X _ _ lc).symm.trans a1)
  obtain rfl : cs = vs := PySem.Data.fields.inj (dc.symm.trans a3)
  obtain rfl : b = P' := Value.ref.inj (Option.some.inj (hc.symm.trans a4))
  exact h6
theorem ok_of {p : Program} {loose : List Str} {mean : ExcName → Option Value} {mg mb : Str → Option Value} {w : World} {h : Heap} (X : (K w.params).In h) (T : Top p loose mean mg mb h) (m1 : (recsOf p).any (fun d => d.name == ("_law_hit" : Str)) = true) (m2 : (recsOf p).any (fun d => d.name == ("_law_prog" : Str)) = true) : Ok w h ∧ Tab h := by
  have t : h.get? 172 = some noTab := tab_of X T m1 (g_law_hit _) (by kernel_rfl : (K w.params).lookup 177 = some o177) (by kernel_rfl : (K w.params).lookup 176 = some o176) rfl rfl rfl rfl
  have u : h.get? 187 = some noTab := tab_of X T m2 (g_law_prog _) (by kernel_rfl : (K w.params).lookup 192 = some o192) (by kernel_rfl : (K w.params).lookup 191 = some o191) rfl rfl rfl rfl
  obtain ⟨o, es, n, e, d, k, f⟩ := T.b
  exact ⟨⟨X, .inl t, ⟨_, u⟩, ⟨o, es, n, e, d, k, fun x hx => (f x).trans (T.builtins x hx)⟩⟩, ⟨t, u⟩⟩
end Mine

end
section
open PySem PySem.W PySem.W.X PyProof.Rows PySem.Calls
set_option maxRecDepth 100000
namespace Mine
theorem law_good {c : ClaimW} {cl : Str → Option Addr} {mean : ExcName → Option Value} {args : List WData} {w : World} {s₁ : Shared} {sa : Addr} {vs : List Value} {ns : List Int} (okt : Ok w s₁.heap ∧ Tab s₁.heap) (hsa : s₁.heap.IsList sa vs.toArray) (hi : IntsAre vs ns) (hns : ns.length ≤ 63) (hg : s₁.gens = #[])
    (hr : ∀ cls, c.raises args cls = false) (hp : c.post args (.bool true) args = true) :
    wpC (model PW w) callerA (call (.ref 225) [.ref sa]) (fun v s' => GoodWG c cl mean args s₁ (.ok (.ret v)) s') (fun e s' => GoodWG c cl mean args s₁ (.error e) s') s₁ := by
  obtain ⟨ok, tab⟩ := okt
  refine wpC_call (law_code (n := 0) ⟨rfl, by decide, by decide⟩ rfl w s₁ sa vs ns ok tab hsa hi hns _ fun s' st ok' => ?_)
  exact ⟨.inl ⟨_, _, [], rfl, hr, ReadsW.bool true, hp, fun _ => ⟨List.nodup_nil, fun _ hm => (nomatch hm)⟩⟩, oldK_of st ok tab ok', st.os, .of_eq (st.gens.trans hg)⟩
set_option maxHeartbeats 8000000 in
theorem fin : PySem.Challenge.rw_il0124_01.Holds := by
  refine Mine.hx ?_
  intro w s₀ s₁ mg mb G Y fa o pm cd doc dV kV ho hd hcd hD hmg hg args vals as hpre hlay hrd hwl hlo
  have KX := kIn_of Y
  refine Ground.open G ?_
  intro T B D TE TW
  wrow_args hpre hlay hrd hwl hlo
  all_goals (
    x_fa T KX hmg
    refine law_good (ok_of KX T (by kernel_rfl) (by kernel_rfl)) (by assumption) (by assumption) (by omega) hg (fun _ => rfl) ?_
    first | rfl | wrow_post)
end Mine

end
theorem PySem.Challenge.cw_il0124_01_holds : PySem.Challenge.rw_il0124_01.Holds :=
  Mine.fin
