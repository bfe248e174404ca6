import PyProof.Rows.All
import KE.KUnpack
import KE.KTurns
import KE.KSortTup
import Wide.FinOn
import OpenK.AllK
import Wide.All
import Lean
import PySem.Challenge.RW_yh0008_01
set_option maxRecDepth 100000
set_option maxHeartbeats 2000000
set_option Elab.async false
set_option autoImplicit false
set_option linter.unusedVariables false
namespace Mine
open PySem PySem.W PySem.Calls PyProof.Rows
noncomputable section
abbrev pw : Program := PySem.Challenge.pw_yh0008_01
def top (i : Nat) : Stmt := pw.main.body.getD i default
def cls (i j : Nat) : Stmt := match top i with
  | .ClassDef _ _ _ b .. => b.getD j default
  | s => s
def fParams (s : Stmt) : Arguments := match s with
  | .FunctionDef _ a .. => a
  | _ => default
def fBody (s : Stmt) : List Stmt := match s with
  | .FunctionDef _ _ b .. => b
  | _ => []
def fScope (s : Stmt) : Scope := match s with
  | .FunctionDef _ _ _ _ _ _ sc .. => sc
  | _ => default
abbrev vS (x : String) : Nat → Value := Value.str (Str.ofString x)
abbrev vI : Int → Nat → Value := Value.int
abbrev vR : Nat → Value := Value.ref
abbrev kE (P : Params) (x : String) (n : Nat) (v : Value) : DictEntry := { hash := PyData.keyHash P (Str.ofString x), key := Value.str (Str.ofString x) n, val := v }
abbrev oT (c : String) (l : Array Value) : Obj := { cls := Value.type c, data := Data.fields l }
abbrev oN (l : Array Value) : Obj := { cls := Value.none, data := Data.fields l }
abbrev oU (l : Array Value) : Obj := { cls := Value.type "tuple", data := Data.seq l }
abbrev oD (l : Array DictEntry) : Obj := { cls := Value.type "dict", data := Data.dict l }
abbrev oF (n q : String) (t : Stmt) : Obj := { cls := Value.none, dict := none, data := Data.func { name := Str.ofString n, qualname := Str.ofString q, params := fParams t, body := FuncBody.stmts (fBody t), scope := (fScope t), globals := 0, closure := [], defaults := Value.none, kwdefaults := Value.none, doc := Value.none, pyModule := Value.none, annotations := none, code := Value.none, closureTuple := Value.none, builtins := 0 }, slots := #[] }
abbrev oG (n q : String) (t : Stmt) (cl : List (Str × Addr)) (df md : Value) (cd : Nat) (ct : Value) : Obj := { cls := Value.type "function", dict := none, data := Data.func { name := Str.ofString n, qualname := Str.ofString q, params := fParams t, body := FuncBody.stmts (fBody t), scope := (fScope t), globals := 3, closure := cl, defaults := df, kwdefaults := Value.none, doc := Value.none, pyModule := md, annotations := none, code := Value.ref cd, closureTuple := ct, builtins := 0 }, slots := #[] }
abbrev oC (n q : String) (i : Nat) (ln ac fl : Int) (a : Nat) (b : Nat) (x y : Value) (z : Value) (f : Nat) (t : Int) (u : Nat) : Obj := { cls := Value.type "code", data := Data.fields #[Value.str (Str.ofString n) i, Value.str (Str.ofString q) (i + 1), Value.str (Str.ofString "/claim/cut.py") (i + 2), Value.int ln 0, Value.int ac 0, Value.int 0 0, Value.int 0 0, Value.int fl 0, Value.ref a, Value.bool true, Value.int 181 0, Value.ref b, x, y, z, Value.ref f, Value.int t 0, Value.int ln 0, Value.str (Str.ofString "/claim/cut.py") u] }
abbrev lf (o : Obj) : BT := .node o .nil .nil
abbrev nd : Obj → BT → BT → BT := .node
def oax11 (P : Params) : Obj := oU #[]
def oax12 (P : Params) : Obj := oN #[]
def oax13 (P : Params) : Obj := oT "code" #[vS "<module>" 182, vS "<module>" 183, vS "/claim/cut.py" 184, vI 1 0, vI 0 0, vI 0 0, vI 0 0, vI 0 0, vR 11, Value.bool false, vI 181 0, vR 12, Value.none, Value.none, Value.none, Value.none, vI 185 0, vI 1 0, vS "/claim/cut.py" 186]
def oax14 (P : Params) : Obj := { cls := Value.type "frame", slots := #[some (vR 13), some (vR 3), some (vR 3), none, some (vS "__main__" 164), none, some (vR 0)] }
def ta (P : Params) : BT := (nd (boot_o_0 P) (nd (boot_o_1 P) (nd (boot_o_3 P) (lf (boot_o_7 P)) (lf (oax11 P))) (nd (boot_o_5 P) (lf (boot_o_9 P)) (lf (oax13 P)))) (nd (boot_o_2 P) (nd (boot_o_4 P) (lf (boot_o_8 P)) (lf (oax12 P))) (nd (boot_o_6 P) (lf (boot_o_10 P)) (lf (oax14 P)))))
def tb (P : Params) : BT := (nd (boot_o_0 P) (nd (boot_o_1 P) (nd (boot_o_3 P) (lf (boot_o_7 P)) (lf (oax11 P))) (nd (boot_o_5 P) (lf (boot_o_9 P)) (lf (oax13 P)))) (nd (boot_o_2 P) (nd (boot_o_4 P) (lf (boot_o_8 P)) (lf (oax12 P))) (nd (boot_o_6 P) (lf (boot_o_10 P)) (lf (oax14 P)))))
def o1x3 (P : Params) : Obj := { cls := Value.type "dict", data := Data.dict #[kE P "__name__" 165 (vS "cpy313.email.header" 187), kE P "__doc__" 166 (Value.none), kE P "__package__" 167 (Value.none), kE P "__loader__" 168 (Value.builtin "__main__.__loader__#opaque"), kE P "__spec__" 169 (Value.none), kE P "__annotations__" 170 (vR 6), kE P "__builtins__" 171 (vR 4), kE P "__file__" 173 (vS "/claim/cut.py" 172), kE P "__cached__" 174 (Value.none), kE P "EMPTYSTRING" 190 (vS "" 189)] 10 }
def t1 (P : Params) : BT := (nd (boot_o_0 P) (nd (boot_o_1 P) (nd (o1x3 P) (lf (boot_o_7 P)) (lf (oax11 P))) (nd (boot_o_5 P) (lf (boot_o_9 P)) (lf (oax13 P)))) (nd (boot_o_2 P) (nd (boot_o_4 P) (lf (boot_o_8 P)) (lf (oax12 P))) (nd (boot_o_6 P) (lf (boot_o_10 P)) (lf (oax14 P)))))
def o2x3 (P : Params) : Obj := { cls := Value.type "dict", data := Data.dict #[kE P "__name__" 165 (vS "cpy313.email.header" 187), kE P "__doc__" 166 (Value.none), kE P "__package__" 167 (Value.none), kE P "__loader__" 168 (Value.builtin "__main__.__loader__#opaque"), kE P "__spec__" 169 (Value.none), kE P "__annotations__" 170 (vR 6), kE P "__builtins__" 171 (vR 4), kE P "__file__" 173 (vS "/claim/cut.py" 172), kE P "__cached__" 174 (Value.none), kE P "EMPTYSTRING" 190 (vS "" 189), kE P "_Accumulator" 286 (vR 94)] 11 }
def o2x12 (P : Params) : Obj := oN #[vI 3 0, vI 0 0, vR 21]
def o2x15 (P : Params) : Obj := oU #[Value.type "list"]
def o2x16 (P : Params) : Obj := oT "builtin_function_or_method" #[Value.builtin "type.__prepare__", Value.type "type"]
def o2x17 (P : Params) : Obj := { cls := Value.type "dict", data := Data.dict #[kE P "__module__" 198 (vS "cpy313.email.header" 187), kE P "__qualname__" 200 (vS "_Accumulator" 199), kE P "__firstlineno__" 202 (vI 3 201), kE P "__init__" 212 (vR 31), kE P "push" 221 (vR 38), kE P "pop_from" 231 (vR 46), kE P "pop" 239 (vR 54), kE P "__len__" 246 (vR 61), kE P "__str__" 253 (vR 68), kE P "reset" 261 (vR 76), kE P "is_onlyws" 268 (vR 83), kE P "part_count" 276 (vR 91), kE P "__static_attributes__" 278 (vR 92), kE P "__classcell__" 279 (vR 18)] 14 }
def o2x18 (P : Params) : Obj := { cls := Value.type "cell", data := Data.cell (some (vR 94)) }
def o2x19 (P : Params) : Obj := oU #[]
def o2x20 (P : Params) : Obj := oN #[vI 5 0, vI 4 0, vR 30, vI 9 0, vI 4 0, vR 37, vI 12 0, vI 4 0, vR 45, vI 17 0, vI 4 0, vR 53, vI 22 0, vI 4 0, vR 60, vI 25 0, vI 4 0, vR 67, vI 28 0, vI 4 0, vR 75, vI 34 0, vI 4 0, vR 82, vI 37 0, vI 4 0, vR 90]
def o2x21 (P : Params) : Obj := oT "code" #[vS "_Accumulator" 193, vS "_Accumulator" 194, vS "/claim/cut.py" 195, vI 3 0, vI 0 0, vI 0 0, vI 0 0, vI 0 0, vR 19, Value.bool false, vI 181 0, vR 20, Value.none, Value.none, Value.none, Value.none, vI 196 0, vI 3 0, vS "/claim/cut.py" 197]
def o2x22 (P : Params) : Obj := { cls := Value.type "frame", slots := #[some (vR 21), some (vR 3), some (vR 17), none, some (vS "cpy313.email.header" 187), none, some (vR 0)] }
def o2x23 (P : Params) : Obj := oU #[vI 0 203]
def o2x24 (P : Params) : Obj := oU #[vR 18]
def o2x25 (P : Params) : Obj := oU #[vS "__class__" 207]
def o2x26 (P : Params) : Obj := oN #[]
def o2x27 (P : Params) : Obj := oU #[vS "self" 208, vS "initial_size" 209]
def o2x28 (P : Params) : Obj := oU #[]
def o2x29 (P : Params) : Obj := oF "__init__" "_Accumulator.__init__" (cls 2 0) 
def o2x30 (P : Params) : Obj := oC "__init__" "_Accumulator.__init__" 204 5 2 3 25 26 (Value.none) (vR 27) (vR 28) 29 210 211
def o2x31 (P : Params) : Obj := oG "__init__" "_Accumulator.__init__" (cls 2 0) [(Str.ofString "__class__", 18)] (vR 23) (vS "cpy313.email.header" 187) 30 (vR 24) 
def o2x32 (P : Params) : Obj := oU #[]
def o2x33 (P : Params) : Obj := oN #[]
def o2x34 (P : Params) : Obj := oU #[vS "self" 216, vS "fws" 217, vS "string" 218]
def o2x35 (P : Params) : Obj := oU #[]
def o2x36 (P : Params) : Obj := oF "push" "_Accumulator.push" (cls 2 1) 
def o2x37 (P : Params) : Obj := oC "push" "_Accumulator.push" 213 9 3 3 32 33 (Value.none) (vR 34) (vR 35) 36 219 220
def o2x38 (P : Params) : Obj := oG "push" "_Accumulator.push" (cls 2 1) [] (Value.none) (vS "cpy313.email.header" 187) 37 (Value.none) 
def o2x39 (P : Params) : Obj := oU #[vI 0 222]
def o2x40 (P : Params) : Obj := oU #[]
def o2x41 (P : Params) : Obj := oN #[]
def o2x42 (P : Params) : Obj := oU #[vS "self" 226, vS "i" 227, vS "popped" 228]
def o2x43 (P : Params) : Obj := oU #[]
def o2x44 (P : Params) : Obj := oF "pop_from" "_Accumulator.pop_from" (cls 2 2) 
def o2x45 (P : Params) : Obj := oC "pop_from" "_Accumulator.pop_from" 223 12 2 3 40 41 (Value.none) (vR 42) (vR 43) 44 229 230
def o2x46 (P : Params) : Obj := oG "pop_from" "_Accumulator.pop_from" (cls 2 2) [] (vR 39) (vS "cpy313.email.header" 187) 45 (Value.none) 
def o2x47 (P : Params) : Obj := oU #[vR 18]
def o2x48 (P : Params) : Obj := oU #[vS "__class__" 235]
def o2x49 (P : Params) : Obj := oN #[]
def o2x50 (P : Params) : Obj := oU #[vS "self" 236]
def o2x51 (P : Params) : Obj := oU #[]
def o2x52 (P : Params) : Obj := oF "pop" "_Accumulator.pop" (cls 2 3) 
def o2x53 (P : Params) : Obj := oC "pop" "_Accumulator.pop" 232 17 1 3 48 49 (Value.none) (vR 50) (vR 51) 52 237 238
def o2x54 (P : Params) : Obj := oG "pop" "_Accumulator.pop" (cls 2 3) [(Str.ofString "__class__", 18)] (Value.none) (vS "cpy313.email.header" 187) 53 (vR 47) 
def o2x55 (P : Params) : Obj := oU #[]
def o2x56 (P : Params) : Obj := oN #[]
def o2x57 (P : Params) : Obj := oU #[vS "self" 243]
def o2x58 (P : Params) : Obj := oU #[]
def o2x59 (P : Params) : Obj := oF "__len__" "_Accumulator.__len__" (cls 2 4) 
def o2x60 (P : Params) : Obj := oC "__len__" "_Accumulator.__len__" 240 22 1 3 55 56 (Value.none) (vR 57) (vR 58) 59 244 245
def o2x61 (P : Params) : Obj := oG "__len__" "_Accumulator.__len__" (cls 2 4) [] (Value.none) (vS "cpy313.email.header" 187) 60 (Value.none) 
def o2x62 (P : Params) : Obj := oU #[]
def o2x63 (P : Params) : Obj := oN #[]
def o2x64 (P : Params) : Obj := oU #[vS "self" 250]
def o2x65 (P : Params) : Obj := oU #[]
def o2x66 (P : Params) : Obj := oF "__str__" "_Accumulator.__str__" (cls 2 5) 
def o2x67 (P : Params) : Obj := oC "__str__" "_Accumulator.__str__" 247 25 1 3 62 63 (Value.none) (vR 64) (vR 65) 66 251 252
def o2x68 (P : Params) : Obj := oG "__str__" "_Accumulator.__str__" (cls 2 5) [] (Value.none) (vS "cpy313.email.header" 187) 67 (Value.none) 
def o2x69 (P : Params) : Obj := oU #[Value.none]
def o2x70 (P : Params) : Obj := oU #[]
def o2x71 (P : Params) : Obj := oN #[]
def o2x72 (P : Params) : Obj := oU #[vS "self" 257, vS "startval" 258]
def o2x73 (P : Params) : Obj := oU #[]
def o2x74 (P : Params) : Obj := oF "reset" "_Accumulator.reset" (cls 2 6) 
def o2x75 (P : Params) : Obj := oC "reset" "_Accumulator.reset" 254 28 2 3 70 71 (Value.none) (vR 72) (vR 73) 74 259 260
def o2x76 (P : Params) : Obj := oG "reset" "_Accumulator.reset" (cls 2 6) [] (vR 69) (vS "cpy313.email.header" 187) 75 (Value.none) 
def o2x77 (P : Params) : Obj := oU #[]
def o2x78 (P : Params) : Obj := oN #[]
def o2x79 (P : Params) : Obj := oU #[vS "self" 265]
def o2x80 (P : Params) : Obj := oU #[]
def o2x81 (P : Params) : Obj := oF "is_onlyws" "_Accumulator.is_onlyws" (cls 2 7) 
def o2x82 (P : Params) : Obj := oC "is_onlyws" "_Accumulator.is_onlyws" 262 34 1 3 77 78 (Value.none) (vR 79) (vR 80) 81 266 267
def o2x83 (P : Params) : Obj := oG "is_onlyws" "_Accumulator.is_onlyws" (cls 2 7) [] (Value.none) (vS "cpy313.email.header" 187) 82 (Value.none) 
def o2x84 (P : Params) : Obj := oU #[vR 18]
def o2x85 (P : Params) : Obj := oU #[vS "__class__" 272]
def o2x86 (P : Params) : Obj := oN #[]
def o2x87 (P : Params) : Obj := oU #[vS "self" 273]
def o2x88 (P : Params) : Obj := oU #[]
def o2x89 (P : Params) : Obj := oF "part_count" "_Accumulator.part_count" (cls 2 8) 
def o2x90 (P : Params) : Obj := oC "part_count" "_Accumulator.part_count" 269 37 1 3 85 86 (Value.none) (vR 87) (vR 88) 89 274 275
def o2x91 (P : Params) : Obj := oG "part_count" "_Accumulator.part_count" (cls 2 8) [(Str.ofString "__class__", 18)] (Value.none) (vS "cpy313.email.header" 187) 90 (vR 84) 
def o2x92 (P : Params) : Obj := oU #[vS "_initial_size" 277]
def o2x93 (P : Params) : Obj := { cls := Value.type "dict", data := Data.dict #[kE P "__module__" 198 (vS "cpy313.email.header" 187), kE P "__firstlineno__" 202 (vI 3 201), kE P "__init__" 212 (vR 31), kE P "push" 221 (vR 38), kE P "pop_from" 231 (vR 46), kE P "pop" 239 (vR 54), kE P "__len__" 246 (vR 61), kE P "__str__" 253 (vR 68), kE P "reset" 261 (vR 76), kE P "is_onlyws" 268 (vR 83), kE P "part_count" 276 (vR 91), kE P "__static_attributes__" 278 (vR 92), kE P "__dict__" 281 (vR 95), kE P "__weakref__" 283 (vR 96), kE P "__doc__" 284 (Value.none)] 5 }
def o2x94 (P : Params) : Obj := { cls := Value.type "type", data := Data.cls { name := Str.ofString "_Accumulator", bases := [Value.type "list"], mro := [vR 94, Value.type "list", Value.type "object"], ns := 93, qualname := Str.ofString "_Accumulator" }, slots := #[some (vR 15), none, some (vS "_Accumulator" 191), some (vS "_Accumulator" 199), some (Value.builtin "list.__new__"), some (Value.bool true)] }
def o2x95 (P : Params) : Obj := oT "getset_descriptor" #[vS "__dict__" 280, vR 94, Value.builtin "function.__dict__", Value.builtin "function.__dict__#set"]
def o2x96 (P : Params) : Obj := oT "getset_descriptor" #[vS "__weakref__" 282, vR 94, Value.builtin "ExceptionGroup.__weakref__", Value.none]
def o2x97 (P : Params) : Obj := oT "super" #[vR 94, vR 94, vR 94]
def o2x98 (P : Params) : Obj := oT "builtin_function_or_method" #[Value.builtin "object.__init_subclass__", vR 94]
def t2 (P : Params) : BT := (nd (boot_o_0 P) (nd (boot_o_1 P) (nd (o2x3 P) (nd (boot_o_7 P) (nd (o2x15 P) (nd (o2x31 P) (lf (o2x63 P)) (lf (o2x95 P))) (nd (o2x47 P) (lf (o2x79 P)) .nil)) (nd (o2x23 P) (nd (o2x39 P) (lf (o2x71 P)) .nil) (nd (o2x55 P) (lf (o2x87 P)) .nil))) (nd (oax11 P) (nd (o2x19 P) (nd (o2x35 P) (lf (o2x67 P)) .nil) (nd (o2x51 P) (lf (o2x83 P)) .nil)) (nd (o2x27 P) (nd (o2x43 P) (lf (o2x75 P)) .nil) (nd (o2x59 P) (lf (o2x91 P)) .nil)))) (nd (boot_o_5 P) (nd (boot_o_9 P) (nd (o2x17 P) (nd (o2x33 P) (lf (o2x65 P)) (lf (o2x97 P))) (nd (o2x49 P) (lf (o2x81 P)) .nil)) (nd (o2x25 P) (nd (o2x41 P) (lf (o2x73 P)) .nil) (nd (o2x57 P) (lf (o2x89 P)) .nil))) (nd (oax13 P) (nd (o2x21 P) (nd (o2x37 P) (lf (o2x69 P)) .nil) (nd (o2x53 P) (lf (o2x85 P)) .nil)) (nd (o2x29 P) (nd (o2x45 P) (lf (o2x77 P)) .nil) (nd (o2x61 P) (lf (o2x93 P)) .nil))))) (nd (boot_o_2 P) (nd (boot_o_4 P) (nd (boot_o_8 P) (nd (o2x16 P) (nd (o2x32 P) (lf (o2x64 P)) (lf (o2x96 P))) (nd (o2x48 P) (lf (o2x80 P)) .nil)) (nd (o2x24 P) (nd (o2x40 P) (lf (o2x72 P)) .nil) (nd (o2x56 P) (lf (o2x88 P)) .nil))) (nd (o2x12 P) (nd (o2x20 P) (nd (o2x36 P) (lf (o2x68 P)) .nil) (nd (o2x52 P) (lf (o2x84 P)) .nil)) (nd (o2x28 P) (nd (o2x44 P) (lf (o2x76 P)) .nil) (nd (o2x60 P) (lf (o2x92 P)) .nil)))) (nd (boot_o_6 P) (nd (boot_o_10 P) (nd (o2x18 P) (nd (o2x34 P) (lf (o2x66 P)) (lf (o2x98 P))) (nd (o2x50 P) (lf (o2x82 P)) .nil)) (nd (o2x26 P) (nd (o2x42 P) (lf (o2x74 P)) .nil) (nd (o2x58 P) (lf (o2x90 P)) .nil))) (nd (oax14 P) (nd (o2x22 P) (nd (o2x38 P) (lf (o2x70 P)) .nil) (nd (o2x54 P) (lf (o2x86 P)) .nil)) (nd (o2x30 P) (nd (o2x46 P) (lf (o2x78 P)) .nil) (nd (o2x62 P) (lf (o2x94 P)) .nil))))))
def o16x3 (P : Params) : Obj := { cls := Value.type "dict", data := Data.dict #[kE P "__name__" 165 (vS "cpy313.stringprep" 362), kE P "__doc__" 166 (Value.none), kE P "__package__" 167 (Value.none), kE P "__loader__" 168 (Value.builtin "__main__.__loader__#opaque"), kE P "__spec__" 169 (Value.none), kE P "__annotations__" 170 (vR 6), kE P "__builtins__" 171 (vR 4), kE P "__file__" 173 (vS "/claim/cut.py" 172), kE P "__cached__" 174 (Value.none), kE P "EMPTYSTRING" 190 (vS "" 189), kE P "_Accumulator" 286 (vR 94), kE P "inv" 295 (vR 105), kE P "invert" 296 (vR 105), kE P "getitem" 304 (vR 112), kE P "iadd" 312 (vR 119), kE P "iand" 320 (vR 126), kE P "iconcat" 329 (vR 133), kE P "ilshift" 337 (vR 140), kE P "imul" 345 (vR 147), kE P "ior" 353 (vR 154), kE P "irshift" 361 (vR 161), kE P "in_table_c11" 370 (vR 168), kE P "in_table_c4" 378 (vR 175)] 23 }
def o16x12 (P : Params) : Obj := oN #[vI 3 0, vI 0 0, vR 21, vI 40 0, vI 0 0, vR 104, vI 43 0, vI 0 0, vR 111, vI 45 0, vI 0 0, vR 118, vI 48 0, vI 0 0, vR 125, vI 51 0, vI 0 0, vR 132, vI 57 0, vI 0 0, vR 139, vI 60 0, vI 0 0, vR 146, vI 63 0, vI 0 0, vR 153, vI 66 0, vI 0 0, vR 160, vI 70 0, vI 0 0, vR 167, vI 72 0, vI 0 0, vR 174]
def o16x99 (P : Params) : Obj := oU #[]
def o16x100 (P : Params) : Obj := oN #[]
def o16x101 (P : Params) : Obj := oU #[vS "a" 292]
def o16x102 (P : Params) : Obj := oU #[]
def o16x103 (P : Params) : Obj := oF "inv" "inv" (top 4) 
def o16x104 (P : Params) : Obj := oC "inv" "inv" 289 40 1 3 99 100 (Value.none) (vR 101) (vR 102) 103 293 294
def o16x105 (P : Params) : Obj := oG "inv" "inv" (top 4) [] (Value.none) (vS "cpy313.operator" 287) 104 (Value.none) 
def o16x106 (P : Params) : Obj := oU #[]
def o16x107 (P : Params) : Obj := oN #[]
def o16x108 (P : Params) : Obj := oU #[vS "a" 300, vS "b" 301]
def o16x109 (P : Params) : Obj := oU #[]
def o16x110 (P : Params) : Obj := oF "getitem" "getitem" (top 6) 
def o16x111 (P : Params) : Obj := oC "getitem" "getitem" 297 43 2 3 106 107 (Value.none) (vR 108) (vR 109) 110 302 303
def o16x112 (P : Params) : Obj := oG "getitem" "getitem" (top 6) [] (Value.none) (vS "cpy313.operator" 287) 111 (Value.none) 
def o16x113 (P : Params) : Obj := oU #[]
def o16x114 (P : Params) : Obj := oN #[]
def o16x115 (P : Params) : Obj := oU #[vS "a" 308, vS "b" 309]
def o16x116 (P : Params) : Obj := oU #[]
def o16x117 (P : Params) : Obj := oF "iadd" "iadd" (top 7) 
def o16x118 (P : Params) : Obj := oC "iadd" "iadd" 305 45 2 3 113 114 (Value.none) (vR 115) (vR 116) 117 310 311
def o16x119 (P : Params) : Obj := oG "iadd" "iadd" (top 7) [] (Value.none) (vS "cpy313.operator" 287) 118 (Value.none) 
def o16x120 (P : Params) : Obj := oU #[]
def o16x121 (P : Params) : Obj := oN #[]
def o16x122 (P : Params) : Obj := oU #[vS "a" 316, vS "b" 317]
def o16x123 (P : Params) : Obj := oU #[]
def o16x124 (P : Params) : Obj := oF "iand" "iand" (top 8) 
def o16x125 (P : Params) : Obj := oC "iand" "iand" 313 48 2 3 120 121 (Value.none) (vR 122) (vR 123) 124 318 319
def o16x126 (P : Params) : Obj := oG "iand" "iand" (top 8) [] (Value.none) (vS "cpy313.operator" 287) 125 (Value.none) 
def o16x127 (P : Params) : Obj := oU #[]
def o16x128 (P : Params) : Obj := oN #[]
def o16x129 (P : Params) : Obj := oU #[vS "a" 324, vS "b" 325, vS "msg" 326]
def o16x130 (P : Params) : Obj := oU #[]
def o16x131 (P : Params) : Obj := oF "iconcat" "iconcat" (top 9) 
def o16x132 (P : Params) : Obj := oC "iconcat" "iconcat" 321 51 2 3 127 128 (Value.none) (vR 129) (vR 130) 131 327 328
def o16x133 (P : Params) : Obj := oG "iconcat" "iconcat" (top 9) [] (Value.none) (vS "cpy313.operator" 287) 132 (Value.none) 
def o16x134 (P : Params) : Obj := oU #[]
def o16x135 (P : Params) : Obj := oN #[]
def o16x136 (P : Params) : Obj := oU #[vS "a" 333, vS "b" 334]
def o16x137 (P : Params) : Obj := oU #[]
def o16x138 (P : Params) : Obj := oF "ilshift" "ilshift" (top 10) 
def o16x139 (P : Params) : Obj := oC "ilshift" "ilshift" 330 57 2 3 134 135 (Value.none) (vR 136) (vR 137) 138 335 336
def o16x140 (P : Params) : Obj := oG "ilshift" "ilshift" (top 10) [] (Value.none) (vS "cpy313.operator" 287) 139 (Value.none) 
def o16x141 (P : Params) : Obj := oU #[]
def o16x142 (P : Params) : Obj := oN #[]
def o16x143 (P : Params) : Obj := oU #[vS "a" 341, vS "b" 342]
def o16x144 (P : Params) : Obj := oU #[]
def o16x145 (P : Params) : Obj := oF "imul" "imul" (top 11) 
def o16x146 (P : Params) : Obj := oC "imul" "imul" 338 60 2 3 141 142 (Value.none) (vR 143) (vR 144) 145 343 344
def o16x147 (P : Params) : Obj := oG "imul" "imul" (top 11) [] (Value.none) (vS "cpy313.operator" 287) 146 (Value.none) 
def o16x148 (P : Params) : Obj := oU #[]
def o16x149 (P : Params) : Obj := oN #[]
def o16x150 (P : Params) : Obj := oU #[vS "a" 349, vS "b" 350]
def o16x151 (P : Params) : Obj := oU #[]
def o16x152 (P : Params) : Obj := oF "ior" "ior" (top 12) 
def o16x153 (P : Params) : Obj := oC "ior" "ior" 346 63 2 3 148 149 (Value.none) (vR 150) (vR 151) 152 351 352
def o16x154 (P : Params) : Obj := oG "ior" "ior" (top 12) [] (Value.none) (vS "cpy313.operator" 287) 153 (Value.none) 
def o16x155 (P : Params) : Obj := oU #[]
def o16x156 (P : Params) : Obj := oN #[]
def o16x157 (P : Params) : Obj := oU #[vS "a" 357, vS "b" 358]
def o16x158 (P : Params) : Obj := oU #[]
def o16x159 (P : Params) : Obj := oF "irshift" "irshift" (top 13) 
def o16x160 (P : Params) : Obj := oC "irshift" "irshift" 354 66 2 3 155 156 (Value.none) (vR 157) (vR 158) 159 359 360
def o16x161 (P : Params) : Obj := oG "irshift" "irshift" (top 13) [] (Value.none) (vS "cpy313.operator" 287) 160 (Value.none) 
def o16x162 (P : Params) : Obj := oU #[]
def o16x163 (P : Params) : Obj := oN #[]
def o16x164 (P : Params) : Obj := oU #[vS "code" 367]
def o16x165 (P : Params) : Obj := oU #[]
def o16x166 (P : Params) : Obj := oF "in_table_c11" "in_table_c11" (top 15) 
def o16x167 (P : Params) : Obj := oC "in_table_c11" "in_table_c11" 364 70 1 3 162 163 (Value.none) (vR 164) (vR 165) 166 368 369
def o16x168 (P : Params) : Obj := oG "in_table_c11" "in_table_c11" (top 15) [] (Value.none) (vS "cpy313.stringprep" 362) 167 (Value.none) 
def o16x169 (P : Params) : Obj := oU #[]
def o16x170 (P : Params) : Obj := oN #[]
def o16x171 (P : Params) : Obj := oU #[vS "code" 374, vS "c" 375]
def o16x172 (P : Params) : Obj := oU #[]
def o16x173 (P : Params) : Obj := oF "in_table_c4" "in_table_c4" (top 16) 
def o16x174 (P : Params) : Obj := oC "in_table_c4" "in_table_c4" 371 72 1 3 169 170 (Value.none) (vR 171) (vR 172) 173 376 377
def o16x175 (P : Params) : Obj := oG "in_table_c4" "in_table_c4" (top 16) [] (Value.none) (vS "cpy313.stringprep" 362) 174 (Value.none) 
def t16 (P : Params) : BT := (nd (boot_o_0 P) (nd (boot_o_1 P) (nd (o16x3 P) (nd (boot_o_7 P) (nd (o2x15 P) (nd (o2x31 P) (nd (o2x63 P) (lf (o16x127 P)) .nil) (nd (o2x95 P) (lf (o16x159 P)) .nil)) (nd (o2x47 P) (nd (o2x79 P) (lf (o16x143 P)) .nil) (nd (o16x111 P) (lf (o16x175 P)) .nil))) (nd (o2x23 P) (nd (o2x39 P) (nd (o2x71 P) (lf (o16x135 P)) .nil) (nd (o16x103 P) (lf (o16x167 P)) .nil)) (nd (o2x55 P) (nd (o2x87 P) (lf (o16x151 P)) .nil) (lf (o16x119 P))))) (nd (oax11 P) (nd (o2x19 P) (nd (o2x35 P) (nd (o2x67 P) (lf (o16x131 P)) .nil) (nd (o16x99 P) (lf (o16x163 P)) .nil)) (nd (o2x51 P) (nd (o2x83 P) (lf (o16x147 P)) .nil) (lf (o16x115 P)))) (nd (o2x27 P) (nd (o2x43 P) (nd (o2x75 P) (lf (o16x139 P)) .nil) (nd (o16x107 P) (lf (o16x171 P)) .nil)) (nd (o2x59 P) (nd (o2x91 P) (lf (o16x155 P)) .nil) (lf (o16x123 P)))))) (nd (boot_o_5 P) (nd (boot_o_9 P) (nd (o2x17 P) (nd (o2x33 P) (nd (o2x65 P) (lf (o16x129 P)) .nil) (nd (o2x97 P) (lf (o16x161 P)) .nil)) (nd (o2x49 P) (nd (o2x81 P) (lf (o16x145 P)) .nil) (lf (o16x113 P)))) (nd (o2x25 P) (nd (o2x41 P) (nd (o2x73 P) (lf (o16x137 P)) .nil) (nd (o16x105 P) (lf (o16x169 P)) .nil)) (nd (o2x57 P) (nd (o2x89 P) (lf (o16x153 P)) .nil) (lf (o16x121 P))))) (nd (oax13 P) (nd (o2x21 P) (nd (o2x37 P) (nd (o2x69 P) (lf (o16x133 P)) .nil) (nd (o16x101 P) (lf (o16x165 P)) .nil)) (nd (o2x53 P) (nd (o2x85 P) (lf (o16x149 P)) .nil) (lf (o16x117 P)))) (nd (o2x29 P) (nd (o2x45 P) (nd (o2x77 P) (lf (o16x141 P)) .nil) (nd (o16x109 P) (lf (o16x173 P)) .nil)) (nd (o2x61 P) (nd (o2x93 P) (lf (o16x157 P)) .nil) (lf (o16x125 P))))))) (nd (boot_o_2 P) (nd (boot_o_4 P) (nd (boot_o_8 P) (nd (o2x16 P) (nd (o2x32 P) (nd (o2x64 P) (lf (o16x128 P)) .nil) (nd (o2x96 P) (lf (o16x160 P)) .nil)) (nd (o2x48 P) (nd (o2x80 P) (lf (o16x144 P)) .nil) (lf (o16x112 P)))) (nd (o2x24 P) (nd (o2x40 P) (nd (o2x72 P) (lf (o16x136 P)) .nil) (nd (o16x104 P) (lf (o16x168 P)) .nil)) (nd (o2x56 P) (nd (o2x88 P) (lf (o16x152 P)) .nil) (lf (o16x120 P))))) (nd (o16x12 P) (nd (o2x20 P) (nd (o2x36 P) (nd (o2x68 P) (lf (o16x132 P)) .nil) (nd (o16x100 P) (lf (o16x164 P)) .nil)) (nd (o2x52 P) (nd (o2x84 P) (lf (o16x148 P)) .nil) (lf (o16x116 P)))) (nd (o2x28 P) (nd (o2x44 P) (nd (o2x76 P) (lf (o16x140 P)) .nil) (nd (o16x108 P) (lf (o16x172 P)) .nil)) (nd (o2x60 P) (nd (o2x92 P) (lf (o16x156 P)) .nil) (lf (o16x124 P)))))) (nd (boot_o_6 P) (nd (boot_o_10 P) (nd (o2x18 P) (nd (o2x34 P) (nd (o2x66 P) (lf (o16x130 P)) .nil) (nd (o2x98 P) (lf (o16x162 P)) .nil)) (nd (o2x50 P) (nd (o2x82 P) (lf (o16x146 P)) .nil) (lf (o16x114 P)))) (nd (o2x26 P) (nd (o2x42 P) (nd (o2x74 P) (lf (o16x138 P)) .nil) (nd (o16x106 P) (lf (o16x170 P)) .nil)) (nd (o2x58 P) (nd (o2x90 P) (lf (o16x154 P)) .nil) (lf (o16x122 P))))) (nd (oax14 P) (nd (o2x22 P) (nd (o2x38 P) (nd (o2x70 P) (lf (o16x134 P)) .nil) (nd (o16x102 P) (lf (o16x166 P)) .nil)) (nd (o2x54 P) (nd (o2x86 P) (lf (o16x150 P)) .nil) (lf (o16x118 P)))) (nd (o2x30 P) (nd (o2x46 P) (nd (o2x78 P) (lf (o16x142 P)) .nil) (nd (o16x110 P) (lf (o16x174 P)) .nil)) (nd (o2x62 P) (nd (o2x94 P) (lf (o16x158 P)) .nil) (lf (o16x126 P))))))))
def o17x3 (P : Params) : Obj := { cls := Value.type "dict", data := Data.dict #[kE P "__name__" 165 (vS "cpy313.stringprep" 362), kE P "__doc__" 166 (Value.none), kE P "__package__" 167 (Value.none), kE P "__loader__" 168 (Value.builtin "__main__.__loader__#opaque"), kE P "__spec__" 169 (Value.none), kE P "__annotations__" 170 (vR 6), kE P "__builtins__" 171 (vR 4), kE P "__file__" 173 (vS "/claim/cut.py" 172), kE P "__cached__" 174 (Value.none), kE P "EMPTYSTRING" 190 (vS "" 189), kE P "_Accumulator" 286 (vR 94), kE P "inv" 295 (vR 105), kE P "invert" 296 (vR 105), kE P "getitem" 304 (vR 112), kE P "iadd" 312 (vR 119), kE P "iand" 320 (vR 126), kE P "iconcat" 329 (vR 133), kE P "ilshift" 337 (vR 140), kE P "imul" 345 (vR 147), kE P "ior" 353 (vR 154), kE P "irshift" 361 (vR 161), kE P "in_table_c11" 370 (vR 168), kE P "in_table_c4" 378 (vR 175), kE P "c8_set" 419 (vR 189)] 24 }
def o17x176 (P : Params) : Obj := { cls := Value.type "list", data := Data.seq #[vI 832 379, vI 833 380, vI 8206 381, vI 8207 382] }
def o17x177 (P : Params) : Obj := oT "range" #[vI 8234 383, vI 8239 384, vI 1 385]
def o17x178 (P : Params) : Obj := { cls := Value.type "list", data := Data.seq #[vI 8234 388, vI 8235 389, vI 8236 390, vI 8237 391, vI 8238 392] 7 }
def o17x179 (P : Params) : Obj := oT "range_iterator" #[vI 8239 0, vI 0 0, vI 1 0]
def o17x180 (P : Params) : Obj := oU #[]
def o17x181 (P : Params) : Obj := oT "StopIteration" #[vR 180, Value.none, Value.none, Value.none, Value.bool false, Value.none]
def o17x182 (P : Params) : Obj := { cls := Value.type "list", data := Data.seq #[vI 832 379, vI 833 380, vI 8206 381, vI 8207 382, vI 8234 388, vI 8235 389, vI 8236 390, vI 8237 391, vI 8238 392] }
def o17x183 (P : Params) : Obj := oT "range" #[vI 8298 393, vI 8304 394, vI 1 395]
def o17x184 (P : Params) : Obj := { cls := Value.type "list", data := Data.seq #[vI 8298 398, vI 8299 399, vI 8300 400, vI 8301 401, vI 8302 402, vI 8303 403] 8 }
def o17x185 (P : Params) : Obj := oT "range_iterator" #[vI 8304 0, vI 0 0, vI 1 0]
def o17x186 (P : Params) : Obj := oU #[]
def o17x187 (P : Params) : Obj := oT "StopIteration" #[vR 186, Value.none, Value.none, Value.none, Value.bool false, Value.none]
def o17x188 (P : Params) : Obj := { cls := Value.type "list", data := Data.seq #[vI 832 379, vI 833 380, vI 8206 381, vI 8207 382, vI 8234 388, vI 8235 389, vI 8236 390, vI 8237 391, vI 8238 392, vI 8298 398, vI 8299 399, vI 8300 400, vI 8301 401, vI 8302 402, vI 8303 403] }
def o17x190 (P : Params) : Obj := oT "list_iterator" #[Value.none, vI 15 0]
def o17x191 (P : Params) : Obj := oU #[]
def o17x192 (P : Params) : Obj := oT "StopIteration" #[vR 191, Value.none, Value.none, Value.none, Value.bool false, Value.none]
def t17 (P : Params) (X8 : Obj) : BT := (nd (boot_o_0 P) (nd (boot_o_1 P) (nd (o17x3 P) (nd (boot_o_7 P) (nd (o2x15 P) (nd (o2x31 P) (nd (o2x63 P) (lf (o16x127 P)) (lf (o17x191 P))) (nd (o2x95 P) (lf (o16x159 P)) .nil)) (nd (o2x47 P) (nd (o2x79 P) (lf (o16x143 P)) .nil) (nd (o16x111 P) (lf (o16x175 P)) .nil))) (nd (o2x23 P) (nd (o2x39 P) (nd (o2x71 P) (lf (o16x135 P)) .nil) (nd (o16x103 P) (lf (o16x167 P)) .nil)) (nd (o2x55 P) (nd (o2x87 P) (lf (o16x151 P)) .nil) (nd (o16x119 P) (lf (o17x183 P)) .nil)))) (nd (oax11 P) (nd (o2x19 P) (nd (o2x35 P) (nd (o2x67 P) (lf (o16x131 P)) .nil) (nd (o16x99 P) (lf (o16x163 P)) .nil)) (nd (o2x51 P) (nd (o2x83 P) (lf (o16x147 P)) .nil) (nd (o16x115 P) (lf (o17x179 P)) .nil))) (nd (o2x27 P) (nd (o2x43 P) (nd (o2x75 P) (lf (o16x139 P)) .nil) (nd (o16x107 P) (lf (o16x171 P)) .nil)) (nd (o2x59 P) (nd (o2x91 P) (lf (o16x155 P)) .nil) (nd (o16x123 P) (lf (o17x187 P)) .nil))))) (nd (boot_o_5 P) (nd (boot_o_9 P) (nd (o2x17 P) (nd (o2x33 P) (nd (o2x65 P) (lf (o16x129 P)) .nil) (nd (o2x97 P) (lf (o16x161 P)) .nil)) (nd (o2x49 P) (nd (o2x81 P) (lf (o16x145 P)) .nil) (nd (o16x113 P) (lf (o17x177 P)) .nil))) (nd (o2x25 P) (nd (o2x41 P) (nd (o2x73 P) (lf (o16x137 P)) .nil) (nd (o16x105 P) (lf (o16x169 P)) .nil)) (nd (o2x57 P) (nd (o2x89 P) (lf (o16x153 P)) .nil) (nd (o16x121 P) (lf (o17x185 P)) .nil)))) (nd (oax13 P) (nd (o2x21 P) (nd (o2x37 P) (nd (o2x69 P) (lf (o16x133 P)) .nil) (nd (o16x101 P) (lf (o16x165 P)) .nil)) (nd (o2x53 P) (nd (o2x85 P) (lf (o16x149 P)) .nil) (nd (o16x117 P) (lf (o17x181 P)) .nil))) (nd (o2x29 P) (nd (o2x45 P) (nd (o2x77 P) (lf (o16x141 P)) .nil) (nd (o16x109 P) (lf (o16x173 P)) .nil)) (nd (o2x61 P) (nd (o2x93 P) (lf (o16x157 P)) .nil) (nd (o16x125 P) (nd X8 .nil .nil) .nil)))))) (nd (boot_o_2 P) (nd (boot_o_4 P) (nd (boot_o_8 P) (nd (o2x16 P) (nd (o2x32 P) (nd (o2x64 P) (lf (o16x128 P)) (lf (o17x192 P))) (nd (o2x96 P) (lf (o16x160 P)) .nil)) (nd (o2x48 P) (nd (o2x80 P) (lf (o16x144 P)) .nil) (nd (o16x112 P) (lf (o17x176 P)) .nil))) (nd (o2x24 P) (nd (o2x40 P) (nd (o2x72 P) (lf (o16x136 P)) .nil) (nd (o16x104 P) (lf (o16x168 P)) .nil)) (nd (o2x56 P) (nd (o2x88 P) (lf (o16x152 P)) .nil) (nd (o16x120 P) (lf (o17x184 P)) .nil)))) (nd (o16x12 P) (nd (o2x20 P) (nd (o2x36 P) (nd (o2x68 P) (lf (o16x132 P)) .nil) (nd (o16x100 P) (lf (o16x164 P)) .nil)) (nd (o2x52 P) (nd (o2x84 P) (lf (o16x148 P)) .nil) (nd (o16x116 P) (lf (o17x180 P)) .nil))) (nd (o2x28 P) (nd (o2x44 P) (nd (o2x76 P) (lf (o16x140 P)) .nil) (nd (o16x108 P) (lf (o16x172 P)) .nil)) (nd (o2x60 P) (nd (o2x92 P) (lf (o16x156 P)) .nil) (nd (o16x124 P) (lf (o17x188 P)) .nil))))) (nd (boot_o_6 P) (nd (boot_o_10 P) (nd (o2x18 P) (nd (o2x34 P) (nd (o2x66 P) (lf (o16x130 P)) .nil) (nd (o2x98 P) (lf (o16x162 P)) .nil)) (nd (o2x50 P) (nd (o2x82 P) (lf (o16x146 P)) .nil) (nd (o16x114 P) (lf (o17x178 P)) .nil))) (nd (o2x26 P) (nd (o2x42 P) (nd (o2x74 P) (lf (o16x138 P)) .nil) (nd (o16x106 P) (lf (o16x170 P)) .nil)) (nd (o2x58 P) (nd (o2x90 P) (lf (o16x154 P)) .nil) (nd (o16x122 P) (lf (o17x186 P)) .nil)))) (nd (oax14 P) (nd (o2x22 P) (nd (o2x38 P) (nd (o2x70 P) (lf (o16x134 P)) .nil) (nd (o16x102 P) (lf (o16x166 P)) .nil)) (nd (o2x54 P) (nd (o2x86 P) (lf (o16x150 P)) .nil) (nd (o16x118 P) (lf (o17x182 P)) .nil))) (nd (o2x30 P) (nd (o2x46 P) (nd (o2x78 P) (lf (o16x142 P)) .nil) (nd (o16x110 P) (lf (o16x174 P)) .nil)) (nd (o2x62 P) (nd (o2x94 P) (lf (o16x158 P)) .nil) (nd (o16x126 P) (lf (o17x190 P)) .nil)))))))
def o18x3 (P : Params) : Obj := { cls := Value.type "dict", data := Data.dict #[kE P "__name__" 165 (vS "cpy313.stringprep" 362), kE P "__doc__" 166 (Value.none), kE P "__package__" 167 (Value.none), kE P "__loader__" 168 (Value.builtin "__main__.__loader__#opaque"), kE P "__spec__" 169 (Value.none), kE P "__annotations__" 170 (vR 6), kE P "__builtins__" 171 (vR 4), kE P "__file__" 173 (vS "/claim/cut.py" 172), kE P "__cached__" 174 (Value.none), kE P "EMPTYSTRING" 190 (vS "" 189), kE P "_Accumulator" 286 (vR 94), kE P "inv" 295 (vR 105), kE P "invert" 296 (vR 105), kE P "getitem" 304 (vR 112), kE P "iadd" 312 (vR 119), kE P "iand" 320 (vR 126), kE P "iconcat" 329 (vR 133), kE P "ilshift" 337 (vR 140), kE P "imul" 345 (vR 147), kE P "ior" 353 (vR 154), kE P "irshift" 361 (vR 161), kE P "in_table_c11" 370 (vR 168), kE P "in_table_c4" 378 (vR 175), kE P "c8_set" 419 (vR 189), kE P "in_table_c8" 426 (vR 199)] 25 }
def o18x12 (P : Params) : Obj := oN #[vI 3 0, vI 0 0, vR 21, vI 40 0, vI 0 0, vR 104, vI 43 0, vI 0 0, vR 111, vI 45 0, vI 0 0, vR 118, vI 48 0, vI 0 0, vR 125, vI 51 0, vI 0 0, vR 132, vI 57 0, vI 0 0, vR 139, vI 60 0, vI 0 0, vR 146, vI 63 0, vI 0 0, vR 153, vI 66 0, vI 0 0, vR 160, vI 70 0, vI 0 0, vR 167, vI 72 0, vI 0 0, vR 174, vI 80 0, vI 0 0, vR 198]
def o18x193 (P : Params) : Obj := oU #[]
def o18x194 (P : Params) : Obj := oN #[]
def o18x195 (P : Params) : Obj := oU #[vS "code" 423]
def o18x196 (P : Params) : Obj := oU #[]
def o18x197 (P : Params) : Obj := oF "in_table_c8" "in_table_c8" (top 18) 
def o18x198 (P : Params) : Obj := oC "in_table_c8" "in_table_c8" 420 80 1 3 193 194 (Value.none) (vR 195) (vR 196) 197 424 425
def o18x199 (P : Params) : Obj := oG "in_table_c8" "in_table_c8" (top 18) [] (Value.none) (vS "cpy313.stringprep" 362) 198 (Value.none) 
def t18 (P : Params) (X8 : Obj) : BT := (nd (boot_o_0 P) (nd (boot_o_1 P) (nd (o18x3 P) (nd (boot_o_7 P) (nd (o2x15 P) (nd (o2x31 P) (nd (o2x63 P) (lf (o16x127 P)) (lf (o17x191 P))) (nd (o2x95 P) (lf (o16x159 P)) .nil)) (nd (o2x47 P) (nd (o2x79 P) (lf (o16x143 P)) .nil) (nd (o16x111 P) (lf (o16x175 P)) .nil))) (nd (o2x23 P) (nd (o2x39 P) (nd (o2x71 P) (lf (o16x135 P)) (lf (o18x199 P))) (nd (o16x103 P) (lf (o16x167 P)) .nil)) (nd (o2x55 P) (nd (o2x87 P) (lf (o16x151 P)) .nil) (nd (o16x119 P) (lf (o17x183 P)) .nil)))) (nd (oax11 P) (nd (o2x19 P) (nd (o2x35 P) (nd (o2x67 P) (lf (o16x131 P)) (lf (o18x195 P))) (nd (o16x99 P) (lf (o16x163 P)) .nil)) (nd (o2x51 P) (nd (o2x83 P) (lf (o16x147 P)) .nil) (nd (o16x115 P) (lf (o17x179 P)) .nil))) (nd (o2x27 P) (nd (o2x43 P) (nd (o2x75 P) (lf (o16x139 P)) .nil) (nd (o16x107 P) (lf (o16x171 P)) .nil)) (nd (o2x59 P) (nd (o2x91 P) (lf (o16x155 P)) .nil) (nd (o16x123 P) (lf (o17x187 P)) .nil))))) (nd (boot_o_5 P) (nd (boot_o_9 P) (nd (o2x17 P) (nd (o2x33 P) (nd (o2x65 P) (lf (o16x129 P)) (lf (o18x193 P))) (nd (o2x97 P) (lf (o16x161 P)) .nil)) (nd (o2x49 P) (nd (o2x81 P) (lf (o16x145 P)) .nil) (nd (o16x113 P) (lf (o17x177 P)) .nil))) (nd (o2x25 P) (nd (o2x41 P) (nd (o2x73 P) (lf (o16x137 P)) .nil) (nd (o16x105 P) (lf (o16x169 P)) .nil)) (nd (o2x57 P) (nd (o2x89 P) (lf (o16x153 P)) .nil) (nd (o16x121 P) (lf (o17x185 P)) .nil)))) (nd (oax13 P) (nd (o2x21 P) (nd (o2x37 P) (nd (o2x69 P) (lf (o16x133 P)) (lf (o18x197 P))) (nd (o16x101 P) (lf (o16x165 P)) .nil)) (nd (o2x53 P) (nd (o2x85 P) (lf (o16x149 P)) .nil) (nd (o16x117 P) (lf (o17x181 P)) .nil))) (nd (o2x29 P) (nd (o2x45 P) (nd (o2x77 P) (lf (o16x141 P)) .nil) (nd (o16x109 P) (lf (o16x173 P)) .nil)) (nd (o2x61 P) (nd (o2x93 P) (lf (o16x157 P)) .nil) (nd (o16x125 P) (nd X8 .nil .nil) .nil)))))) (nd (boot_o_2 P) (nd (boot_o_4 P) (nd (boot_o_8 P) (nd (o2x16 P) (nd (o2x32 P) (nd (o2x64 P) (lf (o16x128 P)) (lf (o17x192 P))) (nd (o2x96 P) (lf (o16x160 P)) .nil)) (nd (o2x48 P) (nd (o2x80 P) (lf (o16x144 P)) .nil) (nd (o16x112 P) (lf (o17x176 P)) .nil))) (nd (o2x24 P) (nd (o2x40 P) (nd (o2x72 P) (lf (o16x136 P)) .nil) (nd (o16x104 P) (lf (o16x168 P)) .nil)) (nd (o2x56 P) (nd (o2x88 P) (lf (o16x152 P)) .nil) (nd (o16x120 P) (lf (o17x184 P)) .nil)))) (nd (o18x12 P) (nd (o2x20 P) (nd (o2x36 P) (nd (o2x68 P) (lf (o16x132 P)) (lf (o18x196 P))) (nd (o16x100 P) (lf (o16x164 P)) .nil)) (nd (o2x52 P) (nd (o2x84 P) (lf (o16x148 P)) .nil) (nd (o16x116 P) (lf (o17x180 P)) .nil))) (nd (o2x28 P) (nd (o2x44 P) (nd (o2x76 P) (lf (o16x140 P)) .nil) (nd (o16x108 P) (lf (o16x172 P)) .nil)) (nd (o2x60 P) (nd (o2x92 P) (lf (o16x156 P)) .nil) (nd (o16x124 P) (lf (o17x188 P)) .nil))))) (nd (boot_o_6 P) (nd (boot_o_10 P) (nd (o2x18 P) (nd (o2x34 P) (nd (o2x66 P) (lf (o16x130 P)) (lf (o18x194 P))) (nd (o2x98 P) (lf (o16x162 P)) .nil)) (nd (o2x50 P) (nd (o2x82 P) (lf (o16x146 P)) .nil) (nd (o16x114 P) (lf (o17x178 P)) .nil))) (nd (o2x26 P) (nd (o2x42 P) (nd (o2x74 P) (lf (o16x138 P)) .nil) (nd (o16x106 P) (lf (o16x170 P)) .nil)) (nd (o2x58 P) (nd (o2x90 P) (lf (o16x154 P)) .nil) (nd (o16x122 P) (lf (o17x186 P)) .nil)))) (nd (oax14 P) (nd (o2x22 P) (nd (o2x38 P) (nd (o2x70 P) (lf (o16x134 P)) (lf (o18x198 P))) (nd (o16x102 P) (lf (o16x166 P)) .nil)) (nd (o2x54 P) (nd (o2x86 P) (lf (o16x150 P)) .nil) (nd (o16x118 P) (lf (o17x182 P)) .nil))) (nd (o2x30 P) (nd (o2x46 P) (nd (o2x78 P) (lf (o16x142 P)) .nil) (nd (o16x110 P) (lf (o16x174 P)) .nil)) (nd (o2x62 P) (nd (o2x94 P) (lf (o16x158 P)) .nil) (nd (o16x126 P) (lf (o17x190 P)) .nil)))))))
def o19x3 (P : Params) : Obj := { cls := Value.type "dict", data := Data.dict #[kE P "__name__" 165 (vS "cpy313.stringprep" 362), kE P "__doc__" 166 (Value.none), kE P "__package__" 167 (Value.none), kE P "__loader__" 168 (Value.builtin "__main__.__loader__#opaque"), kE P "__spec__" 169 (Value.none), kE P "__annotations__" 170 (vR 6), kE P "__builtins__" 171 (vR 4), kE P "__file__" 173 (vS "/claim/cut.py" 172), kE P "__cached__" 174 (Value.none), kE P "EMPTYSTRING" 190 (vS "" 189), kE P "_Accumulator" 286 (vR 94), kE P "inv" 295 (vR 105), kE P "invert" 296 (vR 105), kE P "getitem" 304 (vR 112), kE P "iadd" 312 (vR 119), kE P "iand" 320 (vR 126), kE P "iconcat" 329 (vR 133), kE P "ilshift" 337 (vR 140), kE P "imul" 345 (vR 147), kE P "ior" 353 (vR 154), kE P "irshift" 361 (vR 161), kE P "in_table_c11" 370 (vR 168), kE P "in_table_c4" 378 (vR 175), kE P "c8_set" 419 (vR 189), kE P "in_table_c8" 426 (vR 199), kE P "c9_set" 626 (vR 207)] 26 }
def o19x200 (P : Params) : Obj := { cls := Value.type "list", data := Data.seq #[vI 917505 427] }
def o19x201 (P : Params) : Obj := oT "range" #[vI 917536 428, vI 917632 429, vI 1 430]
def o19x202 (P : Params) : Obj := { cls := Value.type "list", data := Data.seq #[vI 917536 433, vI 917537 434, vI 917538 435, vI 917539 436, vI 917540 437, vI 917541 438, vI 917542 439, vI 917543 440, vI 917544 441, vI 917545 442, vI 917546 443, vI 917547 444, vI 917548 445, vI 917549 446, vI 917550 447, vI 917551 448, vI 917552 449, vI 917553 450, vI 917554 451, vI 917555 452, vI 917556 453, vI 917557 454, vI 917558 455, vI 917559 456, vI 917560 457, vI 917561 458, vI 917562 459, vI 917563 460, vI 917564 461, vI 917565 462, vI 917566 463, vI 917567 464, vI 917568 465, vI 917569 466, vI 917570 467, vI 917571 468, vI 917572 469, vI 917573 470, vI 917574 471, vI 917575 472, vI 917576 473, vI 917577 474, vI 917578 475, vI 917579 476, vI 917580 477, vI 917581 478, vI 917582 479, vI 917583 480, vI 917584 481, vI 917585 482, vI 917586 483, vI 917587 484, vI 917588 485, vI 917589 486, vI 917590 487, vI 917591 488, vI 917592 489, vI 917593 490, vI 917594 491, vI 917595 492, vI 917596 493, vI 917597 494, vI 917598 495, vI 917599 496, vI 917600 497, vI 917601 498, vI 917602 499, vI 917603 500, vI 917604 501, vI 917605 502, vI 917606 503, vI 917607 504, vI 917608 505, vI 917609 506, vI 917610 507, vI 917611 508, vI 917612 509, vI 917613 510, vI 917614 511, vI 917615 512, vI 917616 513, vI 917617 514, vI 917618 515, vI 917619 516, vI 917620 517, vI 917621 518, vI 917622 519, vI 917623 520, vI 917624 521, vI 917625 522, vI 917626 523, vI 917627 524, vI 917628 525, vI 917629 526, vI 917630 527, vI 917631 528] 98 }
def o19x203 (P : Params) : Obj := oT "range_iterator" #[vI 917632 0, vI 0 0, vI 1 0]
def o19x204 (P : Params) : Obj := oU #[]
def o19x205 (P : Params) : Obj := oT "StopIteration" #[vR 204, Value.none, Value.none, Value.none, Value.bool false, Value.none]
def o19x206 (P : Params) : Obj := { cls := Value.type "list", data := Data.seq #[vI 917505 427, vI 917536 433, vI 917537 434, vI 917538 435, vI 917539 436, vI 917540 437, vI 917541 438, vI 917542 439, vI 917543 440, vI 917544 441, vI 917545 442, vI 917546 443, vI 917547 444, vI 917548 445, vI 917549 446, vI 917550 447, vI 917551 448, vI 917552 449, vI 917553 450, vI 917554 451, vI 917555 452, vI 917556 453, vI 917557 454, vI 917558 455, vI 917559 456, vI 917560 457, vI 917561 458, vI 917562 459, vI 917563 460, vI 917564 461, vI 917565 462, vI 917566 463, vI 917567 464, vI 917568 465, vI 917569 466, vI 917570 467, vI 917571 468, vI 917572 469, vI 917573 470, vI 917574 471, vI 917575 472, vI 917576 473, vI 917577 474, vI 917578 475, vI 917579 476, vI 917580 477, vI 917581 478, vI 917582 479, vI 917583 480, vI 917584 481, vI 917585 482, vI 917586 483, vI 917587 484, vI 917588 485, vI 917589 486, vI 917590 487, vI 917591 488, vI 917592 489, vI 917593 490, vI 917594 491, vI 917595 492, vI 917596 493, vI 917597 494, vI 917598 495, vI 917599 496, vI 917600 497, vI 917601 498, vI 917602 499, vI 917603 500, vI 917604 501, vI 917605 502, vI 917606 503, vI 917607 504, vI 917608 505, vI 917609 506, vI 917610 507, vI 917611 508, vI 917612 509, vI 917613 510, vI 917614 511, vI 917615 512, vI 917616 513, vI 917617 514, vI 917618 515, vI 917619 516, vI 917620 517, vI 917621 518, vI 917622 519, vI 917623 520, vI 917624 521, vI 917625 522, vI 917626 523, vI 917627 524, vI 917628 525, vI 917629 526, vI 917630 527, vI 917631 528] }
def o19x208 (P : Params) : Obj := oT "list_iterator" #[Value.none, vI 97 0]
def o19x209 (P : Params) : Obj := oU #[]
def o19x210 (P : Params) : Obj := oT "StopIteration" #[vR 209, Value.none, Value.none, Value.none, Value.bool false, Value.none]
def t19 (P : Params) (X8 X9 : Obj) : BT := (nd (boot_o_0 P) (nd (boot_o_1 P) (nd (o19x3 P) (nd (boot_o_7 P) (nd (o2x15 P) (nd (o2x31 P) (nd (o2x63 P) (lf (o16x127 P)) (lf (o17x191 P))) (nd (o2x95 P) (lf (o16x159 P)) .nil)) (nd (o2x47 P) (nd (o2x79 P) (lf (o16x143 P)) (nd X9 .nil .nil)) (nd (o16x111 P) (lf (o16x175 P)) .nil))) (nd (o2x23 P) (nd (o2x39 P) (nd (o2x71 P) (lf (o16x135 P)) (lf (o18x199 P))) (nd (o16x103 P) (lf (o16x167 P)) .nil)) (nd (o2x55 P) (nd (o2x87 P) (lf (o16x151 P)) .nil) (nd (o16x119 P) (lf (o17x183 P)) .nil)))) (nd (oax11 P) (nd (o2x19 P) (nd (o2x35 P) (nd (o2x67 P) (lf (o16x131 P)) (lf (o18x195 P))) (nd (o16x99 P) (lf (o16x163 P)) .nil)) (nd (o2x51 P) (nd (o2x83 P) (lf (o16x147 P)) .nil) (nd (o16x115 P) (lf (o17x179 P)) .nil))) (nd (o2x27 P) (nd (o2x43 P) (nd (o2x75 P) (lf (o16x139 P)) (lf (o19x203 P))) (nd (o16x107 P) (lf (o16x171 P)) .nil)) (nd (o2x59 P) (nd (o2x91 P) (lf (o16x155 P)) .nil) (nd (o16x123 P) (lf (o17x187 P)) .nil))))) (nd (boot_o_5 P) (nd (boot_o_9 P) (nd (o2x17 P) (nd (o2x33 P) (nd (o2x65 P) (lf (o16x129 P)) (lf (o18x193 P))) (nd (o2x97 P) (lf (o16x161 P)) .nil)) (nd (o2x49 P) (nd (o2x81 P) (lf (o16x145 P)) (lf (o19x209 P))) (nd (o16x113 P) (lf (o17x177 P)) .nil))) (nd (o2x25 P) (nd (o2x41 P) (nd (o2x73 P) (lf (o16x137 P)) (lf (o19x201 P))) (nd (o16x105 P) (lf (o16x169 P)) .nil)) (nd (o2x57 P) (nd (o2x89 P) (lf (o16x153 P)) .nil) (nd (o16x121 P) (lf (o17x185 P)) .nil)))) (nd (oax13 P) (nd (o2x21 P) (nd (o2x37 P) (nd (o2x69 P) (lf (o16x133 P)) (lf (o18x197 P))) (nd (o16x101 P) (lf (o16x165 P)) .nil)) (nd (o2x53 P) (nd (o2x85 P) (lf (o16x149 P)) .nil) (nd (o16x117 P) (lf (o17x181 P)) .nil))) (nd (o2x29 P) (nd (o2x45 P) (nd (o2x77 P) (lf (o16x141 P)) (lf (o19x205 P))) (nd (o16x109 P) (lf (o16x173 P)) .nil)) (nd (o2x61 P) (nd (o2x93 P) (lf (o16x157 P)) .nil) (nd (o16x125 P) (nd X8 .nil .nil) .nil)))))) (nd (boot_o_2 P) (nd (boot_o_4 P) (nd (boot_o_8 P) (nd (o2x16 P) (nd (o2x32 P) (nd (o2x64 P) (lf (o16x128 P)) (lf (o17x192 P))) (nd (o2x96 P) (lf (o16x160 P)) .nil)) (nd (o2x48 P) (nd (o2x80 P) (lf (o16x144 P)) (lf (o19x208 P))) (nd (o16x112 P) (lf (o17x176 P)) .nil))) (nd (o2x24 P) (nd (o2x40 P) (nd (o2x72 P) (lf (o16x136 P)) (lf (o19x200 P))) (nd (o16x104 P) (lf (o16x168 P)) .nil)) (nd (o2x56 P) (nd (o2x88 P) (lf (o16x152 P)) .nil) (nd (o16x120 P) (lf (o17x184 P)) .nil)))) (nd (o18x12 P) (nd (o2x20 P) (nd (o2x36 P) (nd (o2x68 P) (lf (o16x132 P)) (lf (o18x196 P))) (nd (o16x100 P) (lf (o16x164 P)) .nil)) (nd (o2x52 P) (nd (o2x84 P) (lf (o16x148 P)) .nil) (nd (o16x116 P) (lf (o17x180 P)) .nil))) (nd (o2x28 P) (nd (o2x44 P) (nd (o2x76 P) (lf (o16x140 P)) (lf (o19x204 P))) (nd (o16x108 P) (lf (o16x172 P)) .nil)) (nd (o2x60 P) (nd (o2x92 P) (lf (o16x156 P)) .nil) (nd (o16x124 P) (lf (o17x188 P)) .nil))))) (nd (boot_o_6 P) (nd (boot_o_10 P) (nd (o2x18 P) (nd (o2x34 P) (nd (o2x66 P) (lf (o16x130 P)) (lf (o18x194 P))) (nd (o2x98 P) (lf (o16x162 P)) .nil)) (nd (o2x50 P) (nd (o2x82 P) (lf (o16x146 P)) (lf (o19x210 P))) (nd (o16x114 P) (lf (o17x178 P)) .nil))) (nd (o2x26 P) (nd (o2x42 P) (nd (o2x74 P) (lf (o16x138 P)) (lf (o19x202 P))) (nd (o16x106 P) (lf (o16x170 P)) .nil)) (nd (o2x58 P) (nd (o2x90 P) (lf (o16x154 P)) .nil) (nd (o16x122 P) (lf (o17x186 P)) .nil)))) (nd (oax14 P) (nd (o2x22 P) (nd (o2x38 P) (nd (o2x70 P) (lf (o16x134 P)) (lf (o18x198 P))) (nd (o16x102 P) (lf (o16x166 P)) .nil)) (nd (o2x54 P) (nd (o2x86 P) (lf (o16x150 P)) .nil) (nd (o16x118 P) (lf (o17x182 P)) .nil))) (nd (o2x30 P) (nd (o2x46 P) (nd (o2x78 P) (lf (o16x142 P)) (lf (o19x206 P))) (nd (o16x110 P) (lf (o16x174 P)) .nil)) (nd (o2x62 P) (nd (o2x94 P) (lf (o16x158 P)) .nil) (nd (o16x126 P) (lf (o17x190 P)) .nil)))))))
def o31x3 (P : Params) : Obj := { cls := Value.type "dict", data := Data.dict #[kE P "__name__" 165 (vS "law_yh0008_01" 634), kE P "__doc__" 166 (Value.none), kE P "__package__" 167 (Value.none), kE P "__loader__" 168 (Value.builtin "__main__.__loader__#opaque"), kE P "__spec__" 169 (Value.none), kE P "__annotations__" 170 (vR 6), kE P "__builtins__" 171 (vR 4), kE P "__file__" 173 (vS "/claim/cut.py" 172), kE P "__cached__" 174 (Value.none), kE P "EMPTYSTRING" 190 (vS "" 189), kE P "_Accumulator" 286 (vR 94), kE P "inv" 295 (vR 105), kE P "invert" 296 (vR 105), kE P "getitem" 304 (vR 112), kE P "iadd" 312 (vR 119), kE P "iand" 320 (vR 126), kE P "iconcat" 329 (vR 133), kE P "ilshift" 337 (vR 140), kE P "imul" 345 (vR 147), kE P "ior" 353 (vR 154), kE P "irshift" 361 (vR 161), kE P "in_table_c11" 370 (vR 168), kE P "in_table_c4" 378 (vR 175), kE P "c8_set" 419 (vR 189), kE P "in_table_c8" 426 (vR 199), kE P "c9_set" 626 (vR 207), kE P "in_table_c9" 633 (vR 217), kE P "_law_sign" 646 (vR 224), kE P "_law_told" 652 (vR 229), kE P "_law_due" 658 (vR 234), kE P "_law_ways" 671 (vR 241), kE P "_law_walks" 677 (vR 246), kE P "_law_pieces" 683 (vR 251), kE P "_law_read" 697 (vR 258), kE P "_law_exchange" 711 (vR 265), kE P "_law_worth" 724 (vR 272), kE P "law" 730 (vR 277)] 37 }
def o31x12 (P : Params) : Obj := oN #[vI 3 0, vI 0 0, vR 21, vI 40 0, vI 0 0, vR 104, vI 43 0, vI 0 0, vR 111, vI 45 0, vI 0 0, vR 118, vI 48 0, vI 0 0, vR 125, vI 51 0, vI 0 0, vR 132, vI 57 0, vI 0 0, vR 139, vI 60 0, vI 0 0, vR 146, vI 63 0, vI 0 0, vR 153, vI 66 0, vI 0 0, vR 160, vI 70 0, vI 0 0, vR 167, vI 72 0, vI 0 0, vR 174, vI 80 0, vI 0 0, vR 198, vI 83 0, vI 0 0, vR 216, vI 86 0, vI 0 0, vR 223, vI 99 0, vI 0 0, vR 228, vI 101 0, vI 0 0, vR 233, vI 104 0, vI 0 0, vR 240, vI 116 0, vI 0 0, vR 245, vI 125 0, vI 0 0, vR 250, vI 128 0, vI 0 0, vR 257, vI 142 0, vI 0 0, vR 264, vI 155 0, vI 0 0, vR 271, vI 162 0, vI 0 0, vR 276]
def o31x211 (P : Params) : Obj := oU #[]
def o31x212 (P : Params) : Obj := oN #[]
def o31x213 (P : Params) : Obj := oU #[vS "code" 630]
def o31x214 (P : Params) : Obj := oU #[]
def o31x215 (P : Params) : Obj := oF "in_table_c9" "in_table_c9" (top 20) 
def o31x216 (P : Params) : Obj := oC "in_table_c9" "in_table_c9" 627 83 1 3 211 212 (Value.none) (vR 213) (vR 214) 215 631 632
def o31x217 (P : Params) : Obj := oG "in_table_c9" "in_table_c9" (top 20) [] (Value.none) (vS "cpy313.stringprep" 362) 216 (Value.none) 
def o31x218 (P : Params) : Obj := oU #[]
def o31x219 (P : Params) : Obj := oN #[]
def o31x220 (P : Params) : Obj := oU #[vS "number" 639, vS "kind" 640, vS "which" 641, vS "place" 642, vS "near" 643]
def o31x221 (P : Params) : Obj := oU #[]
def o31x222 (P : Params) : Obj := oF "_law_sign" "_law_sign" (top 22) 
def o31x223 (P : Params) : Obj := oC "_law_sign" "_law_sign" 636 86 1 3 218 219 (Value.none) (vR 220) (vR 221) 222 644 645
def o31x224 (P : Params) : Obj := oG "_law_sign" "_law_sign" (top 22) [] (Value.none) (vS "law_yh0008_01" 634) 223 (Value.none) 
def o31x225 (P : Params) : Obj := oU #[]
def o31x226 (P : Params) : Obj := oN #[]
def o31x227 (P : Params) : Obj := oF "_law_told" "_law_told" (top 23) 
def o31x228 (P : Params) : Obj := oC "_law_told" "_law_told" 647 99 1 3 225 226 (Value.none) (Value.none) (Value.none) 227 650 651
def o31x229 (P : Params) : Obj := oG "_law_told" "_law_told" (top 23) [] (Value.none) (vS "law_yh0008_01" 634) 228 (Value.none) 
def o31x230 (P : Params) : Obj := oU #[]
def o31x231 (P : Params) : Obj := oN #[]
def o31x232 (P : Params) : Obj := oF "_law_due" "_law_due" (top 24) 
def o31x233 (P : Params) : Obj := oC "_law_due" "_law_due" 653 101 2 3 230 231 (Value.none) (Value.none) (Value.none) 232 656 657
def o31x234 (P : Params) : Obj := oG "_law_due" "_law_due" (top 24) [] (Value.none) (vS "law_yh0008_01" 634) 233 (Value.none) 
def o31x235 (P : Params) : Obj := oU #[]
def o31x236 (P : Params) : Obj := oN #[]
def o31x237 (P : Params) : Obj := oU #[vS "path" 662, vS "page" 663, vS "cell" 664, vS "goal" 665, vS "blank" 666, vS "shut" 667, vS "told" 668]
def o31x238 (P : Params) : Obj := oU #[]
def o31x239 (P : Params) : Obj := oF "_law_ways" "_law_ways" (top 25) 
def o31x240 (P : Params) : Obj := oC "_law_ways" "_law_ways" 659 104 6 3 235 236 (Value.none) (vR 237) (vR 238) 239 669 670
def o31x241 (P : Params) : Obj := oG "_law_ways" "_law_ways" (top 25) [] (Value.none) (vS "law_yh0008_01" 634) 240 (Value.none) 
def o31x242 (P : Params) : Obj := oU #[]
def o31x243 (P : Params) : Obj := oN #[]
def o31x244 (P : Params) : Obj := oF "_law_walks" "_law_walks" (top 26) 
def o31x245 (P : Params) : Obj := oC "_law_walks" "_law_walks" 672 116 3 3 242 243 (Value.none) (Value.none) (Value.none) 244 675 676
def o31x246 (P : Params) : Obj := oG "_law_walks" "_law_walks" (top 26) [] (Value.none) (vS "law_yh0008_01" 634) 245 (Value.none) 
def o31x247 (P : Params) : Obj := oU #[]
def o31x248 (P : Params) : Obj := oN #[]
def o31x249 (P : Params) : Obj := oF "_law_pieces" "_law_pieces" (top 27) 
def o31x250 (P : Params) : Obj := oC "_law_pieces" "_law_pieces" 678 125 2 3 247 248 (Value.none) (Value.none) (Value.none) 249 681 682
def o31x251 (P : Params) : Obj := oG "_law_pieces" "_law_pieces" (top 27) [] (Value.none) (vS "law_yh0008_01" 634) 250 (Value.none) 
def o31x252 (P : Params) : Obj := oU #[]
def o31x253 (P : Params) : Obj := oN #[]
def o31x254 (P : Params) : Obj := oU #[vS "text" 687, vS "cell" 688, vS "plus" 689, vS "minus" 690, vS "step" 691, vS "mask" 692, vS "worth" 693, vS "sign" 694]
def o31x255 (P : Params) : Obj := oU #[]
def o31x256 (P : Params) : Obj := oF "_law_read" "_law_read" (top 28) 
def o31x257 (P : Params) : Obj := oC "_law_read" "_law_read" 684 128 4 3 252 253 (Value.none) (vR 254) (vR 255) 256 695 696
def o31x258 (P : Params) : Obj := oG "_law_read" "_law_read" (top 28) [] (Value.none) (vS "law_yh0008_01" 634) 257 (Value.none) 
def o31x259 (P : Params) : Obj := oU #[]
def o31x260 (P : Params) : Obj := oN #[]
def o31x261 (P : Params) : Obj := oU #[vS "one" 701, vS "other" 702, vS "common" 703, vS "cell" 704, vS "first" 705, vS "second" 706, vS "tail" 707, vS "rest" 708]
def o31x262 (P : Params) : Obj := oU #[]
def o31x263 (P : Params) : Obj := oF "_law_exchange" "_law_exchange" (top 29) 
def o31x264 (P : Params) : Obj := oC "_law_exchange" "_law_exchange" 698 142 3 3 259 260 (Value.none) (vR 261) (vR 262) 263 709 710
def o31x265 (P : Params) : Obj := oG "_law_exchange" "_law_exchange" (top 29) [] (Value.none) (vS "law_yh0008_01" 634) 264 (Value.none) 
def o31x266 (P : Params) : Obj := oU #[]
def o31x267 (P : Params) : Obj := oN #[]
def o31x268 (P : Params) : Obj := oU #[vS "start" 715, vS "goal" 716, vS "worths" 717, vS "sums" 718, vS "cell" 719, vS "above" 720, vS "beside" 721]
def o31x269 (P : Params) : Obj := oU #[]
def o31x270 (P : Params) : Obj := oF "_law_worth" "_law_worth" (top 30) 
def o31x271 (P : Params) : Obj := oC "_law_worth" "_law_worth" 712 155 3 3 266 267 (Value.none) (vR 268) (vR 269) 270 722 723
def o31x272 (P : Params) : Obj := oG "_law_worth" "_law_worth" (top 30) [] (Value.none) (vS "law_yh0008_01" 634) 271 (Value.none) 
def o31x273 (P : Params) : Obj := oU #[]
def o31x274 (P : Params) : Obj := oN #[]
def o31x275 (P : Params) : Obj := oF "law" "law" (top 31) 
def o31x276 (P : Params) : Obj := oC "law" "law" 725 162 1 3 273 274 (Value.none) (Value.none) (Value.none) 275 728 729
def o31x277 (P : Params) : Obj := oG "law" "law" (top 31) [] (Value.none) (vS "law_yh0008_01" 634) 276 (Value.none) 
def t31 (P : Params) (X8 X9 : Obj) : BT := (nd (boot_o_0 P) (nd (boot_o_1 P) (nd (o31x3 P) (nd (boot_o_7 P) (nd (o2x15 P) (nd (o2x31 P) (nd (o2x63 P) (nd (o16x127 P) (lf (o31x255 P)) .nil) (lf (o17x191 P))) (nd (o2x95 P) (lf (o16x159 P)) (lf (o31x223 P)))) (nd (o2x47 P) (nd (o2x79 P) (nd (o16x143 P) (lf (o31x271 P)) .nil) (nd X9 .nil .nil)) (nd (o16x111 P) (lf (o16x175 P)) (lf (o31x239 P))))) (nd (o2x23 P) (nd (o2x39 P) (nd (o2x71 P) (nd (o16x135 P) (lf (o31x263 P)) .nil) (lf (o18x199 P))) (nd (o16x103 P) (lf (o16x167 P)) (lf (o31x231 P)))) (nd (o2x55 P) (nd (o2x87 P) (lf (o16x151 P)) (lf (o31x215 P))) (nd (o16x119 P) (lf (o17x183 P)) (lf (o31x247 P)))))) (nd (oax11 P) (nd (o2x19 P) (nd (o2x35 P) (nd (o2x67 P) (nd (o16x131 P) (lf (o31x259 P)) .nil) (lf (o18x195 P))) (nd (o16x99 P) (lf (o16x163 P)) (lf (o31x227 P)))) (nd (o2x51 P) (nd (o2x83 P) (nd (o16x147 P) (lf (o31x275 P)) .nil) (lf (o31x211 P))) (nd (o16x115 P) (lf (o17x179 P)) (lf (o31x243 P))))) (nd (o2x27 P) (nd (o2x43 P) (nd (o2x75 P) (nd (o16x139 P) (lf (o31x267 P)) .nil) (lf (o19x203 P))) (nd (o16x107 P) (lf (o16x171 P)) (lf (o31x235 P)))) (nd (o2x59 P) (nd (o2x91 P) (lf (o16x155 P)) (lf (o31x219 P))) (nd (o16x123 P) (lf (o17x187 P)) (lf (o31x251 P))))))) (nd (boot_o_5 P) (nd (boot_o_9 P) (nd (o2x17 P) (nd (o2x33 P) (nd (o2x65 P) (nd (o16x129 P) (lf (o31x257 P)) .nil) (lf (o18x193 P))) (nd (o2x97 P) (lf (o16x161 P)) (lf (o31x225 P)))) (nd (o2x49 P) (nd (o2x81 P) (nd (o16x145 P) (lf (o31x273 P)) .nil) (lf (o19x209 P))) (nd (o16x113 P) (lf (o17x177 P)) (lf (o31x241 P))))) (nd (o2x25 P) (nd (o2x41 P) (nd (o2x73 P) (nd (o16x137 P) (lf (o31x265 P)) .nil) (lf (o19x201 P))) (nd (o16x105 P) (lf (o16x169 P)) (lf (o31x233 P)))) (nd (o2x57 P) (nd (o2x89 P) (lf (o16x153 P)) (lf (o31x217 P))) (nd (o16x121 P) (lf (o17x185 P)) (lf (o31x249 P)))))) (nd (oax13 P) (nd (o2x21 P) (nd (o2x37 P) (nd (o2x69 P) (nd (o16x133 P) (lf (o31x261 P)) .nil) (lf (o18x197 P))) (nd (o16x101 P) (lf (o16x165 P)) (lf (o31x229 P)))) (nd (o2x53 P) (nd (o2x85 P) (nd (o16x149 P) (lf (o31x277 P)) .nil) (lf (o31x213 P))) (nd (o16x117 P) (lf (o17x181 P)) (lf (o31x245 P))))) (nd (o2x29 P) (nd (o2x45 P) (nd (o2x77 P) (nd (o16x141 P) (lf (o31x269 P)) .nil) (lf (o19x205 P))) (nd (o16x109 P) (lf (o16x173 P)) (lf (o31x237 P)))) (nd (o2x61 P) (nd (o2x93 P) (lf (o16x157 P)) (lf (o31x221 P))) (nd (o16x125 P) (nd X8 .nil .nil) (lf (o31x253 P)))))))) (nd (boot_o_2 P) (nd (boot_o_4 P) (nd (boot_o_8 P) (nd (o2x16 P) (nd (o2x32 P) (nd (o2x64 P) (nd (o16x128 P) (lf (o31x256 P)) .nil) (lf (o17x192 P))) (nd (o2x96 P) (lf (o16x160 P)) (lf (o31x224 P)))) (nd (o2x48 P) (nd (o2x80 P) (nd (o16x144 P) (lf (o31x272 P)) .nil) (lf (o19x208 P))) (nd (o16x112 P) (lf (o17x176 P)) (lf (o31x240 P))))) (nd (o2x24 P) (nd (o2x40 P) (nd (o2x72 P) (nd (o16x136 P) (lf (o31x264 P)) .nil) (lf (o19x200 P))) (nd (o16x104 P) (lf (o16x168 P)) (lf (o31x232 P)))) (nd (o2x56 P) (nd (o2x88 P) (lf (o16x152 P)) (lf (o31x216 P))) (nd (o16x120 P) (lf (o17x184 P)) (lf (o31x248 P)))))) (nd (o31x12 P) (nd (o2x20 P) (nd (o2x36 P) (nd (o2x68 P) (nd (o16x132 P) (lf (o31x260 P)) .nil) (lf (o18x196 P))) (nd (o16x100 P) (lf (o16x164 P)) (lf (o31x228 P)))) (nd (o2x52 P) (nd (o2x84 P) (nd (o16x148 P) (lf (o31x276 P)) .nil) (lf (o31x212 P))) (nd (o16x116 P) (lf (o17x180 P)) (lf (o31x244 P))))) (nd (o2x28 P) (nd (o2x44 P) (nd (o2x76 P) (nd (o16x140 P) (lf (o31x268 P)) .nil) (lf (o19x204 P))) (nd (o16x108 P) (lf (o16x172 P)) (lf (o31x236 P)))) (nd (o2x60 P) (nd (o2x92 P) (lf (o16x156 P)) (lf (o31x220 P))) (nd (o16x124 P) (lf (o17x188 P)) (lf (o31x252 P))))))) (nd (boot_o_6 P) (nd (boot_o_10 P) (nd (o2x18 P) (nd (o2x34 P) (nd (o2x66 P) (nd (o16x130 P) (lf (o31x258 P)) .nil) (lf (o18x194 P))) (nd (o2x98 P) (lf (o16x162 P)) (lf (o31x226 P)))) (nd (o2x50 P) (nd (o2x82 P) (nd (o16x146 P) (lf (o31x274 P)) .nil) (lf (o19x210 P))) (nd (o16x114 P) (lf (o17x178 P)) (lf (o31x242 P))))) (nd (o2x26 P) (nd (o2x42 P) (nd (o2x74 P) (nd (o16x138 P) (lf (o31x266 P)) .nil) (lf (o19x202 P))) (nd (o16x106 P) (lf (o16x170 P)) (lf (o31x234 P)))) (nd (o2x58 P) (nd (o2x90 P) (lf (o16x154 P)) (lf (o31x218 P))) (nd (o16x122 P) (lf (o17x186 P)) (lf (o31x250 P)))))) (nd (oax14 P) (nd (o2x22 P) (nd (o2x38 P) (nd (o2x70 P) (nd (o16x134 P) (lf (o31x262 P)) .nil) (lf (o18x198 P))) (nd (o16x102 P) (lf (o16x166 P)) (lf (o31x230 P)))) (nd (o2x54 P) (nd (o2x86 P) (lf (o16x150 P)) (lf (o31x214 P))) (nd (o16x118 P) (lf (o17x182 P)) (lf (o31x246 P))))) (nd (o2x30 P) (nd (o2x46 P) (nd (o2x78 P) (nd (o16x142 P) (lf (o31x270 P)) .nil) (lf (o19x206 P))) (nd (o16x110 P) (lf (o16x174 P)) (lf (o31x238 P)))) (nd (o2x62 P) (nd (o2x94 P) (lf (o16x158 P)) (lf (o31x222 P))) (nd (o16x126 P) (lf (o17x190 P)) (lf (o31x254 P)))))))))
def tf (P : Params) (X8 X9 : Obj) : BT := (nd (boot_o_0 P) (nd (boot_o_1 P) (nd (o31x3 P) (nd (boot_o_7 P) (nd (o2x15 P) (nd (o2x31 P) (nd (o2x63 P) (nd (o16x127 P) (lf (o31x255 P)) .nil) (lf (o17x191 P))) (nd (o2x95 P) (lf (o16x159 P)) (lf (o31x223 P)))) (nd (o2x47 P) (nd (o2x79 P) (nd (o16x143 P) (lf (o31x271 P)) .nil) (nd X9 .nil .nil)) (nd (o16x111 P) (lf (o16x175 P)) (lf (o31x239 P))))) (nd (o2x23 P) (nd (o2x39 P) (nd (o2x71 P) (nd (o16x135 P) (lf (o31x263 P)) .nil) (lf (o18x199 P))) (nd (o16x103 P) (lf (o16x167 P)) (lf (o31x231 P)))) (nd (o2x55 P) (nd (o2x87 P) (lf (o16x151 P)) (lf (o31x215 P))) (nd (o16x119 P) (lf (o17x183 P)) (lf (o31x247 P)))))) (nd (oax11 P) (nd (o2x19 P) (nd (o2x35 P) (nd (o2x67 P) (nd (o16x131 P) (lf (o31x259 P)) .nil) (lf (o18x195 P))) (nd (o16x99 P) (lf (o16x163 P)) (lf (o31x227 P)))) (nd (o2x51 P) (nd (o2x83 P) (nd (o16x147 P) (lf (o31x275 P)) .nil) (lf (o31x211 P))) (nd (o16x115 P) (lf (o17x179 P)) (lf (o31x243 P))))) (nd (o2x27 P) (nd (o2x43 P) (nd (o2x75 P) (nd (o16x139 P) (lf (o31x267 P)) .nil) (lf (o19x203 P))) (nd (o16x107 P) (lf (o16x171 P)) (lf (o31x235 P)))) (nd (o2x59 P) (nd (o2x91 P) (lf (o16x155 P)) (lf (o31x219 P))) (nd (o16x123 P) (lf (o17x187 P)) (lf (o31x251 P))))))) (nd (boot_o_5 P) (nd (boot_o_9 P) (nd (o2x17 P) (nd (o2x33 P) (nd (o2x65 P) (nd (o16x129 P) (lf (o31x257 P)) .nil) (lf (o18x193 P))) (nd (o2x97 P) (lf (o16x161 P)) (lf (o31x225 P)))) (nd (o2x49 P) (nd (o2x81 P) (nd (o16x145 P) (lf (o31x273 P)) .nil) (lf (o19x209 P))) (nd (o16x113 P) (lf (o17x177 P)) (lf (o31x241 P))))) (nd (o2x25 P) (nd (o2x41 P) (nd (o2x73 P) (nd (o16x137 P) (lf (o31x265 P)) .nil) (lf (o19x201 P))) (nd (o16x105 P) (lf (o16x169 P)) (lf (o31x233 P)))) (nd (o2x57 P) (nd (o2x89 P) (lf (o16x153 P)) (lf (o31x217 P))) (nd (o16x121 P) (lf (o17x185 P)) (lf (o31x249 P)))))) (nd (oax13 P) (nd (o2x21 P) (nd (o2x37 P) (nd (o2x69 P) (nd (o16x133 P) (lf (o31x261 P)) .nil) (lf (o18x197 P))) (nd (o16x101 P) (lf (o16x165 P)) (lf (o31x229 P)))) (nd (o2x53 P) (nd (o2x85 P) (nd (o16x149 P) (lf (o31x277 P)) .nil) (lf (o31x213 P))) (nd (o16x117 P) (lf (o17x181 P)) (lf (o31x245 P))))) (nd (o2x29 P) (nd (o2x45 P) (nd (o2x77 P) (nd (o16x141 P) (lf (o31x269 P)) .nil) (lf (o19x205 P))) (nd (o16x109 P) (lf (o16x173 P)) (lf (o31x237 P)))) (nd (o2x61 P) (nd (o2x93 P) (lf (o16x157 P)) (lf (o31x221 P))) (nd (o16x125 P) (nd X8 .nil .nil) (lf (o31x253 P)))))))) (nd (boot_o_2 P) (nd (boot_o_4 P) (nd (boot_o_8 P) (nd (o2x16 P) (nd (o2x32 P) (nd (o2x64 P) (nd (o16x128 P) (lf (o31x256 P)) .nil) (lf (o17x192 P))) (nd (o2x96 P) (lf (o16x160 P)) (lf (o31x224 P)))) (nd (o2x48 P) (nd (o2x80 P) (nd (o16x144 P) (lf (o31x272 P)) .nil) (lf (o19x208 P))) (nd (o16x112 P) (lf (o17x176 P)) (lf (o31x240 P))))) (nd (o2x24 P) (nd (o2x40 P) (nd (o2x72 P) (nd (o16x136 P) (lf (o31x264 P)) .nil) (lf (o19x200 P))) (nd (o16x104 P) (lf (o16x168 P)) (lf (o31x232 P)))) (nd (o2x56 P) (nd (o2x88 P) (lf (o16x152 P)) (lf (o31x216 P))) (nd (o16x120 P) (lf (o17x184 P)) (lf (o31x248 P)))))) (nd (o31x12 P) (nd (o2x20 P) (nd (o2x36 P) (nd (o2x68 P) (nd (o16x132 P) (lf (o31x260 P)) .nil) (lf (o18x196 P))) (nd (o16x100 P) (lf (o16x164 P)) (lf (o31x228 P)))) (nd (o2x52 P) (nd (o2x84 P) (nd (o16x148 P) (lf (o31x276 P)) .nil) (lf (o31x212 P))) (nd (o16x116 P) (lf (o17x180 P)) (lf (o31x244 P))))) (nd (o2x28 P) (nd (o2x44 P) (nd (o2x76 P) (nd (o16x140 P) (lf (o31x268 P)) .nil) (lf (o19x204 P))) (nd (o16x108 P) (lf (o16x172 P)) (lf (o31x236 P)))) (nd (o2x60 P) (nd (o2x92 P) (lf (o16x156 P)) (lf (o31x220 P))) (nd (o16x124 P) (lf (o17x188 P)) (lf (o31x252 P))))))) (nd (boot_o_6 P) (nd (boot_o_10 P) (nd (o2x18 P) (nd (o2x34 P) (nd (o2x66 P) (nd (o16x130 P) (lf (o31x258 P)) .nil) (lf (o18x194 P))) (nd (o2x98 P) (lf (o16x162 P)) (lf (o31x226 P)))) (nd (o2x50 P) (nd (o2x82 P) (nd (o16x146 P) (lf (o31x274 P)) .nil) (lf (o19x210 P))) (nd (o16x114 P) (lf (o17x178 P)) (lf (o31x242 P))))) (nd (o2x26 P) (nd (o2x42 P) (nd (o2x74 P) (nd (o16x138 P) (lf (o31x266 P)) .nil) (lf (o19x202 P))) (nd (o16x106 P) (lf (o16x170 P)) (lf (o31x234 P)))) (nd (o2x58 P) (nd (o2x90 P) (lf (o16x154 P)) (lf (o31x218 P))) (nd (o16x122 P) (lf (o17x186 P)) (lf (o31x250 P)))))) (nd (oax14 P) (nd (o2x22 P) (nd (o2x38 P) (nd (o2x70 P) (nd (o16x134 P) (lf (o31x262 P)) .nil) (lf (o18x198 P))) (nd (o16x102 P) (lf (o16x166 P)) (lf (o31x230 P)))) (nd (o2x54 P) (nd (o2x86 P) (lf (o16x150 P)) (lf (o31x214 P))) (nd (o16x118 P) (lf (o17x182 P)) (lf (o31x246 P))))) (nd (o2x30 P) (nd (o2x46 P) (nd (o2x78 P) (nd (o16x142 P) (lf (o31x270 P)) .nil) (lf (o19x206 P))) (nd (o16x110 P) (lf (o16x174 P)) (lf (o31x238 P)))) (nd (o2x62 P) (nd (o2x94 P) (lf (o16x158 P)) (lf (o31x222 P))) (nd (o16x126 P) (lf (o17x190 P)) (lf (o31x254 P)))))))))
def env0 : Env := { scope := pw.main.scope, locals := mainNs, globals := mainNs, cells := [], code := .ref 13, frame := some 14 }
def pos0 : Pos := ⟨0, 0, 0, 0⟩
abbrev cE : Code := .body pw.main.body env0
abbrev B0 : List Frame := [topFrame pos0]
abbrev ann0 : Option Value := some (.ref 6)
def Sa (w : World) (os : OsState) : SharedT := ⟨ta w.params, 15, {}, #[], {}, 187, os⟩
def pa : Pos := { line := 0, col := 0, endLine := 0, endCol := 0 }
def Sb (w : World) (os : OsState) : SharedT := ⟨tb w.params, 15, {}, #[], {}, 187, os⟩
def pb : Pos := { line := 0, col := 0, endLine := 0, endCol := 0 }
def S1 (w : World) (os : OsState) : SharedT := ⟨t1 w.params, 15, {}, #[], {}, 191, os⟩
def p1 : Pos := { line := 2, col := 0, endLine := 2, endCol := 11 }
def S2 (w : World) (os : OsState) : SharedT := ⟨t2 w.params, 99, {}, #[], {}, 287, os⟩
def p2 : Pos := { line := 3, col := 0, endLine := 38, endCol := 32 }
def S16 (w : World) (os : OsState) : SharedT := ⟨t16 w.params, 176, {}, #[], {}, 379, os⟩
def p16 : Pos := { line := 72, col := 0, endLine := 78, endCol := 46 }
def S17 (X8 : Obj) (w : World) (os : OsState) : SharedT := ⟨t17 w.params X8, 193, {}, #[], {}, 420, os⟩
def p17 : Pos := { line := 79, col := 0, endLine := 79, endCol := 6 }
def S18 (X8 : Obj) (w : World) (os : OsState) : SharedT := ⟨t18 w.params X8, 200, {}, #[], {}, 427, os⟩
def p18 : Pos := { line := 80, col := 0, endLine := 81, endCol := 30 }
def S19 (X8 X9 : Obj) (w : World) (os : OsState) : SharedT := ⟨t19 w.params X8 X9, 211, {}, #[], {}, 627, os⟩
def p19 : Pos := { line := 82, col := 0, endLine := 82, endCol := 6 }
def S31 (X8 X9 : Obj) (w : World) (os : OsState) : SharedT := ⟨t31 w.params X8 X9, 278, {}, #[], {}, 731, os⟩
def p31 : Pos := { line := 162, col := 0, endLine := 216, endCol := 44 }
def Sf (X8 X9 : Obj) (w : World) (os : OsState) : SharedT := ⟨tf w.params X8 X9, 278, {}, #[], {}, 731, os⟩
def pf : Pos := { line := 162, col := 0, endLine := 216, endCol := 44 }
def sObj (e : Array (Int × Value)) (n : Nat) (t : SetTable) : Obj := ⟨.type "set", none, .set e n t, #[]⟩
theorem q_run : @segRunT = @PySem.W.Fast.tw10110043849684766642 := PySem.W.Fast.te10110043849684766642
theorem q_tb : @treeTable = @PySem.W.Fast.tw14364793385576792824 := PySem.W.Fast.te14364793385576792824
theorem q_go : @topGo = @PySem.W.Fast.tw15667345088766844465 := PySem.W.Fast.te15667345088766844465
theorem q_den : @denote = @PySem.W.Fast.tw11892475500146522536 := PySem.W.Fast.te11892475500146522536
theorem g1 (w : World) : (fun os => segRunT treeTable pw w 11 ann0 1 19 (Sb w os) (piecesOf [top 0, top 1] env0 cE pb B0)) = fun os => some (.next, S1 w os, cE, p1) := by
  rw [q_run, q_tb]; kernel_rfl
def H0 (P : Params) : Heap := boot_heap P
def Hf (X8 X9 : Obj) (P : Params) : Heap := absHeap (tf P X8 X9) 278 {}
def qv : Program := { pw with main := { pw.main with body := [top 0, top 1, top 3, top 4, top 6, top 7, top 8, top 9, top 10, top 11, top 12, top 13, top 14, top 15, top 16, top 18, top 20, top 21, top 22, top 23, top 24, top 25, top 26, top 27, top 28, top 29, top 30, top 31] } }
def loose0 : List Str := ["_Accumulator", "invert", "c8_set", "c9_set"]
theorem hopen : ∀ w : World, (fencedOpening treeTable pw w 12000).map (fun s => (s.heap, s.gens, s.drawn, s.toks)) = some (boot_heap w.params, Array.mk [], boot_drawn, boot_toks) :=
  boot_open (p := pw) (N := 12000) rfl (by decide) (fun s => rfl)
theorem hsize (w : World) : ((H0 w.params).isNs mainGlobals && (Array.mk [] : Array GenState).size == 0, (H0 w.params).objs.size, (H0 w.params).nsMap mainGlobals "__annotations__") = (true, 11, ann0) := by
  have a : ((H0 w.params).isNs mainGlobals && (Array.mk [] : Array GenState).size == 0) = true := by
    have : (boot_heap w.params).isNs mainGlobals = true := by kernel_rfl
    unfold H0
    rw [this]; rfl
  have b : (H0 w.params).objs.size = 11 := by kernel_rfl
  have c : (H0 w.params).nsMap mainGlobals "__annotations__" = ann0 := by kernel_rfl
  rw [a, b, c]
theorem hpre (w : World) : (fun os => topGo treeTable pw w 11 ann0 12 ⟨H0 w.params, Array.mk [], boot_drawn, boot_toks, os⟩ (topStub pw)) = fun os => some ((Sa w os).abs, ⟨denote treeTable cE, cE, pa, B0⟩) := by
  rw [q_go, q_tb, q_den]; kernel_rfl
theorem hblock (w : World) : (fun os => segRun treeTable pw w 11 ann0 1 1 (Sa w os).abs (blockOf pw.main.body env0 cE pa B0)) = fun os => some (.next, (Sb w os).abs, cE, pb) := by
  kernel_rfl
theorem hfin (X8 X9 : Obj) (w : World) : (fun os => topRun treeTable pw w 11 ann0 2 (S31 X8 X9 w os).abs ⟨doneF Flow.next, cE, p31, B0⟩) = fun os => some (Sf X8 X9 w os).abs := by
  kernel_rfl
def Kx (X8 X9 : Obj) (P : Params) : Frag := [(0, boot_o_0 P), (1, boot_o_1 P), (2, boot_o_2 P), (3, o31x3 P), (4, boot_o_4 P), (5, boot_o_5 P), (6, boot_o_6 P), (7, boot_o_7 P), (9, boot_o_9 P), (10, boot_o_10 P), (11, oax11 P), (13, oax13 P), (14, oax14 P), (15, o2x15 P), (16, o2x16 P), (17, o2x17 P), (18, o2x18 P), (19, o2x19 P), (21, o2x21 P), (22, o2x22 P), (23, o2x23 P), (24, o2x24 P), (25, o2x25 P), (27, o2x27 P), (28, o2x28 P), (30, o2x30 P), (31, o2x31 P), (32, o2x32 P), (34, o2x34 P), (35, o2x35 P), (37, o2x37 P), (38, o2x38 P), (39, o2x39 P), (40, o2x40 P), (42, o2x42 P), (43, o2x43 P), (45, o2x45 P), (46, o2x46 P), (47, o2x47 P), (48, o2x48 P), (50, o2x50 P), (51, o2x51 P), (53, o2x53 P), (54, o2x54 P), (55, o2x55 P), (57, o2x57 P), (58, o2x58 P), (60, o2x60 P), (61, o2x61 P), (62, o2x62 P), (64, o2x64 P), (65, o2x65 P), (67, o2x67 P), (68, o2x68 P), (69, o2x69 P), (70, o2x70 P), (72, o2x72 P), (73, o2x73 P), (75, o2x75 P), (76, o2x76 P), (77, o2x77 P), (79, o2x79 P), (80, o2x80 P), (82, o2x82 P), (83, o2x83 P), (84, o2x84 P), (85, o2x85 P), (87, o2x87 P), (88, o2x88 P), (90, o2x90 P), (91, o2x91 P), (92, o2x92 P), (93, o2x93 P), (94, o2x94 P), (95, o2x95 P), (96, o2x96 P), (97, o2x97 P), (98, o2x98 P), (99, o16x99 P), (101, o16x101 P), (102, o16x102 P), (104, o16x104 P), (105, o16x105 P), (106, o16x106 P), (108, o16x108 P), (109, o16x109 P), (111, o16x111 P), (112, o16x112 P), (113, o16x113 P), (115, o16x115 P), (116, o16x116 P), (118, o16x118 P), (119, o16x119 P), (120, o16x120 P), (122, o16x122 P), (123, o16x123 P), (125, o16x125 P), (126, o16x126 P), (127, o16x127 P), (129, o16x129 P), (130, o16x130 P), (132, o16x132 P), (133, o16x133 P), (134, o16x134 P), (136, o16x136 P), (137, o16x137 P), (139, o16x139 P), (140, o16x140 P), (141, o16x141 P), (143, o16x143 P), (144, o16x144 P), (146, o16x146 P), (147, o16x147 P), (148, o16x148 P), (150, o16x150 P), (151, o16x151 P), (153, o16x153 P), (154, o16x154 P), (155, o16x155 P), (157, o16x157 P), (158, o16x158 P), (160, o16x160 P), (161, o16x161 P), (162, o16x162 P), (164, o16x164 P), (165, o16x165 P), (167, o16x167 P), (168, o16x168 P), (169, o16x169 P), (171, o16x171 P), (172, o16x172 P), (174, o16x174 P), (175, o16x175 P), (176, o17x176 P), (177, o17x177 P), (178, o17x178 P), (179, o17x179 P), (180, o17x180 P), (181, o17x181 P), (182, o17x182 P), (183, o17x183 P), (184, o17x184 P), (185, o17x185 P), (186, o17x186 P), (187, o17x187 P), (188, o17x188 P), (189, X8), (190, o17x190 P), (191, o17x191 P), (192, o17x192 P), (193, o18x193 P), (195, o18x195 P), (196, o18x196 P), (198, o18x198 P), (199, o18x199 P), (200, o19x200 P), (201, o19x201 P), (202, o19x202 P), (203, o19x203 P), (204, o19x204 P), (205, o19x205 P), (206, o19x206 P), (207, X9), (208, o19x208 P), (209, o19x209 P), (210, o19x210 P), (211, o31x211 P), (213, o31x213 P), (214, o31x214 P), (216, o31x216 P), (217, o31x217 P), (218, o31x218 P), (220, o31x220 P), (221, o31x221 P), (223, o31x223 P), (224, o31x224 P), (225, o31x225 P), (228, o31x228 P), (229, o31x229 P), (230, o31x230 P), (233, o31x233 P), (234, o31x234 P), (235, o31x235 P), (237, o31x237 P), (238, o31x238 P), (240, o31x240 P), (241, o31x241 P), (242, o31x242 P), (245, o31x245 P), (246, o31x246 P), (247, o31x247 P), (250, o31x250 P), (251, o31x251 P), (252, o31x252 P), (254, o31x254 P), (255, o31x255 P), (257, o31x257 P), (258, o31x258 P), (259, o31x259 P), (261, o31x261 P), (262, o31x262 P), (264, o31x264 P), (265, o31x265 P), (266, o31x266 P), (268, o31x268 P), (269, o31x269 P), (271, o31x271 P), (272, o31x272 P), (273, o31x273 P), (276, o31x276 P), (277, o31x277 P)]
def Ka : List Addr := [0, 1, 2, 3, 4, 5, 6, 7, 9, 10, 11, 13, 14, 15, 16, 17, 18, 19, 21, 22, 23, 24, 25, 27, 28, 30, 31, 32, 34, 35, 37, 38, 39, 40, 42, 43, 45, 46, 47, 48, 50, 51, 53, 54, 55, 57, 58, 60, 61, 62, 64, 65, 67, 68, 69, 70, 72, 73, 75, 76, 77, 79, 80, 82, 83, 84, 85, 87, 88, 90, 91, 92, 93, 94, 95, 96, 97, 98, 99, 101, 102, 104, 105, 106, 108, 109, 111, 112, 113, 115, 116, 118, 119, 120, 122, 123, 125, 126, 127, 129, 130, 132, 133, 134, 136, 137, 139, 140, 141, 143, 144, 146, 147, 148, 150, 151, 153, 154, 155, 157, 158, 160, 161, 162, 164, 165, 167, 168, 169, 171, 172, 174, 175, 176, 177, 178, 179, 180, 181, 182, 183, 184, 185, 186, 187, 188, 189, 190, 191, 192, 193, 195, 196, 198, 199, 200, 201, 202, 203, 204, 205, 206, 207, 208, 209, 210, 211, 213, 214, 216, 217, 218, 220, 221, 223, 224, 225, 228, 229, 230, 233, 234, 235, 237, 238, 240, 241, 242, 245, 246, 247, 250, 251, 252, 254, 255, 257, 258, 259, 261, 262, 264, 265, 266, 268, 269, 271, 272, 273, 276, 277]
abbrev rowW : RowW := PySem.Challenge.rw_yh0008_01.row.toRowW
def Xt0 (s : Shared) : Bool := xlAt qv [] s && recOk (RowW.records rowW) s
theorem Ka_is (X8 X9 : Obj) (P : Params) : Ka = (Kx X8 X9 P).map (·.1) := by kernel_rfl
theorem look1 (X8 X9 : Obj) (w : World) (os : OsState) : (staticsOk (importedModules pw.main.body) (H0 w.params) (Sf X8 X9 w os).abs.heap && namesBound pw (Sf X8 X9 w os).abs.heap && gensDone (Sf X8 X9 w os).abs && laidKept (H0 w.params) (Sf X8 X9 w os).abs.heap) = true := by
  kernel_rfl
theorem q_seen : @openSeen = @PySem.W.Fast.tw4187177175401517315 := PySem.W.Fast.te4187177175401517315
theorem look2 (X8 X9 : Obj) (w : World) (os : OsState) : openSeen qv loose0 (importedModules pw.main.body) Xt0 true (Sf X8 X9 w os).abs = openGood qv loose0 := by
  rw [q_seen]
  kernel_rfl
theorem look3 (e8 e9 : Array (Int × Value)) (n8 n9 : Nat) (t8 t9 : SetTable) (w : World) (os : OsState) : Ka.map (Sf (sObj e8 n8 t8) (sObj e9 n9 t9) w os).abs.heap.get? = (Kx (sObj e8 n8 t8) (sObj e9 n9 t9) w.params).map (fun p => some p.2) := by
  kernel_rfl
theorem g2 (w : World) : (fun os => segRunT treeTable pw w 11 ann0 1 505 (S1 w os) (piecesOf [top 2] env0 cE p1 B0)) = fun os => some (.next, S2 w os, cE, p2) := by
  rw [q_run, q_tb]; kernel_rfl
theorem g3 (w : World) : (fun os => segRunT treeTable pw w 11 ann0 1 358 (S2 w os) (piecesOf [top 3, top 4, top 5, top 6, top 7, top 8, top 9, top 10, top 11, top 12, top 13, top 14, top 15, top 16] env0 cE p2 B0)) = fun os => some (.next, S16 w os, cE, p16) := by
  rw [q_run, q_tb]; kernel_rfl
theorem g5 (X8 : Obj) (w : World) : (fun os => segRunT treeTable pw w 11 ann0 1 30 (S17 X8 w os) (piecesOf [top 18] env0 cE p17 B0)) = fun os => some (.next, S18 X8 w os, cE, p18) := by
  rw [q_run, q_tb]; kernel_rfl
theorem g7 (X8 X9 : Obj) (w : World) : (fun os => segRunT treeTable pw w 11 ann0 1 500 (S19 X8 X9 w os) (piecesOf [top 20, top 21, top 22, top 23, top 24, top 25, top 26, top 27, top 28, top 29, top 30, top 31] env0 cE p19 B0)) = fun os => some (.next, S31 X8 X9 w os, cE, p31) := by
  rw [q_run, q_tb]; kernel_rfl
structure Sets where
  e8 : Params → Array (Int × Value)
  n8 : Params → Nat
  t8 : Params → SetTable
  e9 : Params → Array (Int × Value)
  n9 : Params → Nat
  t9 : Params → SetTable
def Sets.x8 (z : Sets) (P : Params) : Obj := sObj (z.e8 P) (z.n8 P) (z.t8 P)
def Sets.x9 (z : Sets) (P : Params) : Obj := sObj (z.e9 P) (z.n9 P) (z.t9 P)
def Sets.K (z : Sets) (P : Params) : Frag := Kx (z.x8 P) (z.x9 P) P
def Sets.K2 (z : Sets) (P : Params) : Frag := (56, o2x56 P) :: (63, o2x63 P) :: z.K P
def Ka2 : List Addr := 56 :: 63 :: Ka
def Sets.H (z : Sets) : Hook := kHook z.K2 Ka2 (fun P => congrArg (fun l => 56 :: 63 :: l) (Ka_is _ _ P))
theorem look4 (z : Sets) (w : World) (os : OsState) : Ka2.map (Sf (z.x8 w.params) (z.x9 w.params) w os).abs.heap.get? = (z.K2 w.params).map (fun p => some p.2) := by
  have a : (Sf (z.x8 w.params) (z.x9 w.params) w os).abs.heap.get? 56 = some (o2x56 w.params) := by kernel_rfl
  have b : (Sf (z.x8 w.params) (z.x9 w.params) w os).abs.heap.get? 63 = some (o2x63 w.params) := by kernel_rfl
  have c := look3 (z.e8 w.params) (z.e9 w.params) (z.n8 w.params) (z.n9 w.params) (z.t8 w.params) (z.t9 w.params) w os
  show _ :: _ :: Ka.map _ = some _ :: some _ :: (z.K w.params).map _
  rw [a, b]
  exact congrArg (fun l => some (o2x56 w.params) :: some (o2x63 w.params) :: l) c
def Sets.Made (z : Sets) : Prop :=
  (∀ (w : World) (os : OsState), ∃ n, n ≤ 3000 ∧ segRun treeTable pw w 11 ann0 1 n (S16 w os).abs (piecesOf [top 17] env0 cE p16 B0) = some (.next, (S17 (z.x8 w.params) w os).abs, cE, p17)) ∧
  (∀ (w : World) (os : OsState), ∃ n, n ≤ 6000 ∧ segRun treeTable pw w 11 ann0 1 n (S18 (z.x8 w.params) w os).abs (piecesOf [top 19] env0 cE p18 B0) = some (.next, (S19 (z.x8 w.params) (z.x9 w.params) w os).abs, cE, p19))
theorem body_is : pw.main.body = [top 0, top 1] ++ ([top 2] ++ ([top 3, top 4, top 5, top 6, top 7, top 8, top 9, top 10, top 11, top 12, top 13, top 14, top 15, top 16] ++ ([top 17] ++ ([top 18] ++ ([top 19] ++ ([top 20, top 21, top 22, top 23, top 24, top 25, top 26, top 27, top 28, top 29, top 30, top 31] ++ [])))))) := by kernel_rfl
theorem hrun {z : Sets} (Z : z.Made) (w : World) (os : OsState) : topRun treeTable pw w 11 ann0 11000 ⟨H0 w.params, Array.mk [], boot_drawn, boot_toks, os⟩ (topStub pw) = some (Sf (z.x8 w.params) (z.x9 w.params) w os).abs := by
  obtain ⟨n1, b1, h1⟩ := Z.1 w os
  obtain ⟨n2, b2, h2⟩ := Z.2 w os
  have k8 := piece_nil (env := env0) (congrFun (hfin (z.x8 w.params) (z.x9 w.params) w) os)
  have k7 := piece_app (segRun_of (congrFun (g7 (z.x8 w.params) (z.x9 w.params) w) os)) k8
  have k6 := piece_app h2 k7
  have k5 := piece_app (segRun_of (congrFun (g5 (z.x8 w.params) w) os)) k6
  have k4 := piece_app h1 k5
  have k3 := piece_app (segRun_of (congrFun (g3 w) os)) k4
  have k2 := piece_app (segRun_of (congrFun (g2 w) os)) k3
  have k1 := piece_app (segRun_of (congrFun (g1 w) os)) k2
  rw [← body_is] at k1
  have k0 := go_top (congrFun (hpre w) os) (piece_block (congrFun (hblock w) os) k1)
  have k := topRun_mono (11000 - (12 + (1 + (19 + (505 + (358 + (n1 + (30 + (n2 + (500 + 2)))))))))) _ _ _ _ k0
  rw [show 12 + (1 + (19 + (505 + (358 + (n1 + (30 + (n2 + (500 + 2)))))))) + (11000 - (12 + (1 + (19 + (505 + (358 + (n1 + (30 + (n2 + (500 + 2)))))))))) = 11000 by omega] at k
  exact k
theorem left0 {z : Sets} (Z : z.Made) : LeftO pw qv loose0 Xt0 z.H.obs z.H.val 12000 true :=
  LeftO.of_pieces (H₀ := H0) (H₁ := fun P => Hf (z.x8 P) (z.x9 P) P) (gs₀ := Array.mk []) (gs₁ := #[]) (d₀ := boot_drawn) (d₁ := {}) (k₀ := boot_toks) (k₁ := 731) (m₀ := 11) (ann := ann0) (M := 11000)
    hopen hsize (fun w os => hrun Z w os) (by decide) (fun w => funext fun os => looks_pair (look1 (z.x8 w.params) (z.x9 w.params) w os) (looks_pair (look2 (z.x8 w.params) (z.x9 w.params) w os) (look4 z w os)))
theorem ok0 : (chainsOk qv && opensWell pw && (frees rowW && rowW.within.isEmpty)) = true := by kernel_rfl
theorem bare0 : pw.bare := ⟨rfl, rfl, rfl, rfl, rfl, by decide +kernel⟩
theorem prom0 : rowW.promised := by
  w_witness2
abbrev oL (l : Array Value) (n : Nat := 0) : Obj := { cls := Value.type "list", data := Data.seq l n }
def itO (l j : Nat) : Obj := oT "list_iterator" #[vR l, vI j 0]
def l17x176 (P : Params) : Obj := oL #[vI 832 379, vI 833 380, vI 8206 381, vI 8207 382]
def l17x177 (P : Params) : Obj := oT "range" #[vI 8234 383, vI 8239 384, vI 1 385]
def l17x178 (P : Params) : Obj := oL #[vI 8234 388, vI 8235 389, vI 8236 390, vI 8237 391, vI 8238 392] 7
def l17x179 (P : Params) : Obj := oT "range_iterator" #[vI 8239 0, vI 0 0, vI 1 0]
def l17x180 (P : Params) : Obj := oU #[]
def l17x181 (P : Params) : Obj := oT "StopIteration" #[vR 180, Value.none, Value.none, Value.none, Value.bool false, Value.none]
def l17x182 (P : Params) : Obj := oL #[vI 832 379, vI 833 380, vI 8206 381, vI 8207 382, vI 8234 388, vI 8235 389, vI 8236 390, vI 8237 391, vI 8238 392]
def l17x183 (P : Params) : Obj := oT "range" #[vI 8298 393, vI 8304 394, vI 1 395]
def l17x184 (P : Params) : Obj := oL #[vI 8298 398, vI 8299 399, vI 8300 400, vI 8301 401, vI 8302 402, vI 8303 403] 8
def l17x185 (P : Params) : Obj := oT "range_iterator" #[vI 8304 0, vI 0 0, vI 1 0]
def l17x186 (P : Params) : Obj := oU #[]
def l17x187 (P : Params) : Obj := oT "StopIteration" #[vR 186, Value.none, Value.none, Value.none, Value.bool false, Value.none]
def its17 : List (Int × Nat) := [(832, 379), (833, 380), (8206, 381), (8207, 382), (8234, 388), (8235, 389), (8236, 390), (8237, 391), (8238, 392), (8298, 398), (8299, 399), (8300, 400), (8301, 401), (8302, 402), (8303, 403)]
def l17x188 (P : Params) : Obj := { cls := Value.type "list", data := Data.seq (its17.map fun p => vI p.1 p.2).toArray }
def lt17 (P : Params) (X : Obj) (j : Nat) : BT := (nd (boot_o_0 P) (nd (boot_o_1 P) (nd (o16x3 P) (nd (boot_o_7 P) (nd (o2x15 P) (nd (o2x31 P) (nd (o2x63 P) (lf (o16x127 P)) .nil) (nd (o2x95 P) (lf (o16x159 P)) .nil)) (nd (o2x47 P) (nd (o2x79 P) (lf (o16x143 P)) .nil) (nd (o16x111 P) (lf (o16x175 P)) .nil))) (nd (o2x23 P) (nd (o2x39 P) (nd (o2x71 P) (lf (o16x135 P)) .nil) (nd (o16x103 P) (lf (o16x167 P)) .nil)) (nd (o2x55 P) (nd (o2x87 P) (lf (o16x151 P)) .nil) (nd (o16x119 P) (lf (l17x183 P)) .nil)))) (nd (oax11 P) (nd (o2x19 P) (nd (o2x35 P) (nd (o2x67 P) (lf (o16x131 P)) .nil) (nd (o16x99 P) (lf (o16x163 P)) .nil)) (nd (o2x51 P) (nd (o2x83 P) (lf (o16x147 P)) .nil) (nd (o16x115 P) (lf (l17x179 P)) .nil))) (nd (o2x27 P) (nd (o2x43 P) (nd (o2x75 P) (lf (o16x139 P)) .nil) (nd (o16x107 P) (lf (o16x171 P)) .nil)) (nd (o2x59 P) (nd (o2x91 P) (lf (o16x155 P)) .nil) (nd (o16x123 P) (lf (l17x187 P)) .nil))))) (nd (boot_o_5 P) (nd (boot_o_9 P) (nd (o2x17 P) (nd (o2x33 P) (nd (o2x65 P) (lf (o16x129 P)) .nil) (nd (o2x97 P) (lf (o16x161 P)) .nil)) (nd (o2x49 P) (nd (o2x81 P) (lf (o16x145 P)) .nil) (nd (o16x113 P) (lf (l17x177 P)) .nil))) (nd (o2x25 P) (nd (o2x41 P) (nd (o2x73 P) (lf (o16x137 P)) .nil) (nd (o16x105 P) (lf (o16x169 P)) .nil)) (nd (o2x57 P) (nd (o2x89 P) (lf (o16x153 P)) .nil) (nd (o16x121 P) (lf (l17x185 P)) .nil)))) (nd (oax13 P) (nd (o2x21 P) (nd (o2x37 P) (nd (o2x69 P) (lf (o16x133 P)) .nil) (nd (o16x101 P) (lf (o16x165 P)) .nil)) (nd (o2x53 P) (nd (o2x85 P) (lf (o16x149 P)) .nil) (nd (o16x117 P) (lf (l17x181 P)) .nil))) (nd (o2x29 P) (nd (o2x45 P) (nd (o2x77 P) (lf (o16x141 P)) .nil) (nd (o16x109 P) (lf (o16x173 P)) .nil)) (nd (o2x61 P) (nd (o2x93 P) (lf (o16x157 P)) .nil) (nd (o16x125 P) (nd X .nil .nil) .nil)))))) (nd (boot_o_2 P) (nd (boot_o_4 P) (nd (boot_o_8 P) (nd (o2x16 P) (nd (o2x32 P) (nd (o2x64 P) (lf (o16x128 P)) .nil) (nd (o2x96 P) (lf (o16x160 P)) .nil)) (nd (o2x48 P) (nd (o2x80 P) (lf (o16x144 P)) .nil) (nd (o16x112 P) (lf (l17x176 P)) .nil))) (nd (o2x24 P) (nd (o2x40 P) (nd (o2x72 P) (lf (o16x136 P)) .nil) (nd (o16x104 P) (lf (o16x168 P)) .nil)) (nd (o2x56 P) (nd (o2x88 P) (lf (o16x152 P)) .nil) (nd (o16x120 P) (lf (l17x184 P)) .nil)))) (nd (o16x12 P) (nd (o2x20 P) (nd (o2x36 P) (nd (o2x68 P) (lf (o16x132 P)) .nil) (nd (o16x100 P) (lf (o16x164 P)) .nil)) (nd (o2x52 P) (nd (o2x84 P) (lf (o16x148 P)) .nil) (nd (o16x116 P) (lf (l17x180 P)) .nil))) (nd (o2x28 P) (nd (o2x44 P) (nd (o2x76 P) (lf (o16x140 P)) .nil) (nd (o16x108 P) (lf (o16x172 P)) .nil)) (nd (o2x60 P) (nd (o2x92 P) (lf (o16x156 P)) .nil) (nd (o16x124 P) (lf (l17x188 P)) .nil))))) (nd (boot_o_6 P) (nd (boot_o_10 P) (nd (o2x18 P) (nd (o2x34 P) (nd (o2x66 P) (lf (o16x130 P)) .nil) (nd (o2x98 P) (lf (o16x162 P)) .nil)) (nd (o2x50 P) (nd (o2x82 P) (lf (o16x146 P)) .nil) (nd (o16x114 P) (lf (l17x178 P)) .nil))) (nd (o2x26 P) (nd (o2x42 P) (nd (o2x74 P) (lf (o16x138 P)) .nil) (nd (o16x106 P) (lf (o16x170 P)) .nil)) (nd (o2x58 P) (nd (o2x90 P) (lf (o16x154 P)) .nil) (nd (o16x122 P) (lf (l17x186 P)) .nil)))) (nd (oax14 P) (nd (o2x22 P) (nd (o2x38 P) (nd (o2x70 P) (lf (o16x134 P)) .nil) (nd (o16x102 P) (lf (o16x166 P)) .nil)) (nd (o2x54 P) (nd (o2x86 P) (lf (o16x150 P)) .nil) (nd (o16x118 P) (lf (l17x182 P)) .nil))) (nd (o2x30 P) (nd (o2x46 P) (nd (o2x78 P) (lf (o16x142 P)) .nil) (nd (o16x110 P) (lf (o16x174 P)) .nil)) (nd (o2x62 P) (nd (o2x94 P) (lf (o16x158 P)) .nil) (nd (o16x126 P) (nd (itO 188 j) .nil .nil) .nil)))))))
def L17 (X : Obj) (j tk : Nat) (w : World) (os : OsState) : SharedT := ⟨lt17 w.params X j, 191, {}, #[], {}, tk, os⟩
abbrev cU17 : Code := .builtin "set.update.loop" ⟨[.ref 189, .ref 190], []⟩
def l19x200 (P : Params) : Obj := oL #[vI 917505 427]
def l19x201 (P : Params) : Obj := oT "range" #[vI 917536 428, vI 917632 429, vI 1 430]
def l19x202 (P : Params) : Obj := oL #[vI 917536 433, vI 917537 434, vI 917538 435, vI 917539 436, vI 917540 437, vI 917541 438, vI 917542 439, vI 917543 440, vI 917544 441, vI 917545 442, vI 917546 443, vI 917547 444, vI 917548 445, vI 917549 446, vI 917550 447, vI 917551 448, vI 917552 449, vI 917553 450, vI 917554 451, vI 917555 452, vI 917556 453, vI 917557 454, vI 917558 455, vI 917559 456, vI 917560 457, vI 917561 458, vI 917562 459, vI 917563 460, vI 917564 461, vI 917565 462, vI 917566 463, vI 917567 464, vI 917568 465, vI 917569 466, vI 917570 467, vI 917571 468, vI 917572 469, vI 917573 470, vI 917574 471, vI 917575 472, vI 917576 473, vI 917577 474, vI 917578 475, vI 917579 476, vI 917580 477, vI 917581 478, vI 917582 479, vI 917583 480, vI 917584 481, vI 917585 482, vI 917586 483, vI 917587 484, vI 917588 485, vI 917589 486, vI 917590 487, vI 917591 488, vI 917592 489, vI 917593 490, vI 917594 491, vI 917595 492, vI 917596 493, vI 917597 494, vI 917598 495, vI 917599 496, vI 917600 497, vI 917601 498, vI 917602 499, vI 917603 500, vI 917604 501, vI 917605 502, vI 917606 503, vI 917607 504, vI 917608 505, vI 917609 506, vI 917610 507, vI 917611 508, vI 917612 509, vI 917613 510, vI 917614 511, vI 917615 512, vI 917616 513, vI 917617 514, vI 917618 515, vI 917619 516, vI 917620 517, vI 917621 518, vI 917622 519, vI 917623 520, vI 917624 521, vI 917625 522, vI 917626 523, vI 917627 524, vI 917628 525, vI 917629 526, vI 917630 527, vI 917631 528] 98
def l19x203 (P : Params) : Obj := oT "range_iterator" #[vI 917632 0, vI 0 0, vI 1 0]
def l19x204 (P : Params) : Obj := oU #[]
def l19x205 (P : Params) : Obj := oT "StopIteration" #[vR 204, Value.none, Value.none, Value.none, Value.bool false, Value.none]
def its19 : List (Int × Nat) := [(917505, 427), (917536, 433), (917537, 434), (917538, 435), (917539, 436), (917540, 437), (917541, 438), (917542, 439), (917543, 440), (917544, 441), (917545, 442), (917546, 443), (917547, 444), (917548, 445), (917549, 446), (917550, 447), (917551, 448), (917552, 449), (917553, 450), (917554, 451), (917555, 452), (917556, 453), (917557, 454), (917558, 455), (917559, 456), (917560, 457), (917561, 458), (917562, 459), (917563, 460), (917564, 461), (917565, 462), (917566, 463), (917567, 464), (917568, 465), (917569, 466), (917570, 467), (917571, 468), (917572, 469), (917573, 470), (917574, 471), (917575, 472), (917576, 473), (917577, 474), (917578, 475), (917579, 476), (917580, 477), (917581, 478), (917582, 479), (917583, 480), (917584, 481), (917585, 482), (917586, 483), (917587, 484), (917588, 485), (917589, 486), (917590, 487), (917591, 488), (917592, 489), (917593, 490), (917594, 491), (917595, 492), (917596, 493), (917597, 494), (917598, 495), (917599, 496), (917600, 497), (917601, 498), (917602, 499), (917603, 500), (917604, 501), (917605, 502), (917606, 503), (917607, 504), (917608, 505), (917609, 506), (917610, 507), (917611, 508), (917612, 509), (917613, 510), (917614, 511), (917615, 512), (917616, 513), (917617, 514), (917618, 515), (917619, 516), (917620, 517), (917621, 518), (917622, 519), (917623, 520), (917624, 521), (917625, 522), (917626, 523), (917627, 524), (917628, 525), (917629, 526), (917630, 527), (917631, 528)]
def l19x206 (P : Params) : Obj := { cls := Value.type "list", data := Data.seq (its19.map fun p => vI p.1 p.2).toArray }
def lt19 (P : Params) (X8 : Obj) (X : Obj) (j : Nat) : BT := (nd (boot_o_0 P) (nd (boot_o_1 P) (nd (o18x3 P) (nd (boot_o_7 P) (nd (o2x15 P) (nd (o2x31 P) (nd (o2x63 P) (lf (o16x127 P)) (lf (o17x191 P))) (nd (o2x95 P) (lf (o16x159 P)) .nil)) (nd (o2x47 P) (nd (o2x79 P) (lf (o16x143 P)) (nd X .nil .nil)) (nd (o16x111 P) (lf (o16x175 P)) .nil))) (nd (o2x23 P) (nd (o2x39 P) (nd (o2x71 P) (lf (o16x135 P)) (lf (o18x199 P))) (nd (o16x103 P) (lf (o16x167 P)) .nil)) (nd (o2x55 P) (nd (o2x87 P) (lf (o16x151 P)) .nil) (nd (o16x119 P) (lf (o17x183 P)) .nil)))) (nd (oax11 P) (nd (o2x19 P) (nd (o2x35 P) (nd (o2x67 P) (lf (o16x131 P)) (lf (o18x195 P))) (nd (o16x99 P) (lf (o16x163 P)) .nil)) (nd (o2x51 P) (nd (o2x83 P) (lf (o16x147 P)) .nil) (nd (o16x115 P) (lf (o17x179 P)) .nil))) (nd (o2x27 P) (nd (o2x43 P) (nd (o2x75 P) (lf (o16x139 P)) (lf (l19x203 P))) (nd (o16x107 P) (lf (o16x171 P)) .nil)) (nd (o2x59 P) (nd (o2x91 P) (lf (o16x155 P)) .nil) (nd (o16x123 P) (lf (o17x187 P)) .nil))))) (nd (boot_o_5 P) (nd (boot_o_9 P) (nd (o2x17 P) (nd (o2x33 P) (nd (o2x65 P) (lf (o16x129 P)) (lf (o18x193 P))) (nd (o2x97 P) (lf (o16x161 P)) .nil)) (nd (o2x49 P) (nd (o2x81 P) (lf (o16x145 P)) .nil) (nd (o16x113 P) (lf (o17x177 P)) .nil))) (nd (o2x25 P) (nd (o2x41 P) (nd (o2x73 P) (lf (o16x137 P)) (lf (l19x201 P))) (nd (o16x105 P) (lf (o16x169 P)) .nil)) (nd (o2x57 P) (nd (o2x89 P) (lf (o16x153 P)) .nil) (nd (o16x121 P) (lf (o17x185 P)) .nil)))) (nd (oax13 P) (nd (o2x21 P) (nd (o2x37 P) (nd (o2x69 P) (lf (o16x133 P)) (lf (o18x197 P))) (nd (o16x101 P) (lf (o16x165 P)) .nil)) (nd (o2x53 P) (nd (o2x85 P) (lf (o16x149 P)) .nil) (nd (o16x117 P) (lf (o17x181 P)) .nil))) (nd (o2x29 P) (nd (o2x45 P) (nd (o2x77 P) (lf (o16x141 P)) (lf (l19x205 P))) (nd (o16x109 P) (lf (o16x173 P)) .nil)) (nd (o2x61 P) (nd (o2x93 P) (lf (o16x157 P)) .nil) (nd (o16x125 P) (nd X8 .nil .nil) .nil)))))) (nd (boot_o_2 P) (nd (boot_o_4 P) (nd (boot_o_8 P) (nd (o2x16 P) (nd (o2x32 P) (nd (o2x64 P) (lf (o16x128 P)) (lf (o17x192 P))) (nd (o2x96 P) (lf (o16x160 P)) .nil)) (nd (o2x48 P) (nd (o2x80 P) (lf (o16x144 P)) (nd (itO 206 j) .nil .nil)) (nd (o16x112 P) (lf (o17x176 P)) .nil))) (nd (o2x24 P) (nd (o2x40 P) (nd (o2x72 P) (lf (o16x136 P)) (lf (l19x200 P))) (nd (o16x104 P) (lf (o16x168 P)) .nil)) (nd (o2x56 P) (nd (o2x88 P) (lf (o16x152 P)) .nil) (nd (o16x120 P) (lf (o17x184 P)) .nil)))) (nd (o18x12 P) (nd (o2x20 P) (nd (o2x36 P) (nd (o2x68 P) (lf (o16x132 P)) (lf (o18x196 P))) (nd (o16x100 P) (lf (o16x164 P)) .nil)) (nd (o2x52 P) (nd (o2x84 P) (lf (o16x148 P)) .nil) (nd (o16x116 P) (lf (o17x180 P)) .nil))) (nd (o2x28 P) (nd (o2x44 P) (nd (o2x76 P) (lf (o16x140 P)) (lf (l19x204 P))) (nd (o16x108 P) (lf (o16x172 P)) .nil)) (nd (o2x60 P) (nd (o2x92 P) (lf (o16x156 P)) .nil) (nd (o16x124 P) (lf (o17x188 P)) .nil))))) (nd (boot_o_6 P) (nd (boot_o_10 P) (nd (o2x18 P) (nd (o2x34 P) (nd (o2x66 P) (lf (o16x130 P)) (lf (o18x194 P))) (nd (o2x98 P) (lf (o16x162 P)) .nil)) (nd (o2x50 P) (nd (o2x82 P) (lf (o16x146 P)) .nil) (nd (o16x114 P) (lf (o17x178 P)) .nil))) (nd (o2x26 P) (nd (o2x42 P) (nd (o2x74 P) (lf (o16x138 P)) (lf (l19x202 P))) (nd (o16x106 P) (lf (o16x170 P)) .nil)) (nd (o2x58 P) (nd (o2x90 P) (lf (o16x154 P)) .nil) (nd (o16x122 P) (lf (o17x186 P)) .nil)))) (nd (oax14 P) (nd (o2x22 P) (nd (o2x38 P) (nd (o2x70 P) (lf (o16x134 P)) (lf (o18x198 P))) (nd (o16x102 P) (lf (o16x166 P)) .nil)) (nd (o2x54 P) (nd (o2x86 P) (lf (o16x150 P)) .nil) (nd (o16x118 P) (lf (o17x182 P)) .nil))) (nd (o2x30 P) (nd (o2x46 P) (nd (o2x78 P) (lf (o16x142 P)) (lf (l19x206 P))) (nd (o16x110 P) (lf (o16x174 P)) .nil)) (nd (o2x62 P) (nd (o2x94 P) (lf (o16x158 P)) .nil) (nd (o16x126 P) (lf (o17x190 P)) .nil)))))))
def L19 (X8 : Obj) (X : Obj) (j tk : Nat) (w : World) (os : OsState) : SharedT := ⟨lt19 w.params X8 X j, 209, {}, #[], {}, tk, os⟩
abbrev cU19 : Code := .builtin "set.update.loop" ⟨[.ref 207, .ref 208], []⟩
theorem q_sgo : @segGoT = @PySem.W.Fast.tw10295753902157049106 := PySem.W.Fast.te10295753902157049106
theorem q_next : @pyNext = @PySem.W.Fast.tw9404975358583537561 := PySem.W.Fast.te9404975358583537561
theorem q_hash : @pyHash = @PySem.W.Fast.tw10540108854288196387 := PySem.W.Fast.te10540108854288196387
def AllAt (P : Nat → Int → Nat → Prop) : Nat → List (Int × Nat) → Prop
  | _, [] => True
  | j, p :: r => P j p.1 p.2 ∧ AllAt P (j + 1) r
theorem AllAt.get {P : Nat → Int → Nat → Prop} : ∀ {l : List (Int × Nat)} {n j : Nat} {v : Int} {t : Nat}, AllAt P n l → l[j]? = some (v, t) → P (n + j) v t
  | [], _, _, _, _, _, e => nomatch e
  | _ :: _, _, 0, _, _, h, e => by cases e; exact h.1
  | _ :: _, n, j + 1, _, _, h, e => by
    have := h.2.get e
    rwa [Nat.add_assoc, Nat.add_comm 1 j] at this
def SA17 (j : Nat) (v : Int) (t : Nat) : Prop := ∀ (X : Obj) (w : World) (os : OsState) (tk : Nat) (K : Option Value → Sem Fin) (H : Value → Sem Fin) (gd : Bool → Bool) (lv : List Value → List Value) (pos : Pos) (F1 F2 : Frame) (B : List Frame),
   segGoT treeTable pw w 11 ann0 1 10 (L17 X j tk w os) ⟨(pyNext (.ref 190)).wrap K H gd lv, cU17, pos, F1 :: F2 :: B⟩ = some (L17 X (j + 1) tk w os, ⟨K (some (.int v t)), cU17, pos, F1 :: F2 :: B⟩)
def SB17 (v : Int) (t : Nat) : Prop := ∀ (X : Obj) (os : OsState) (j tk : Nat) (K : Int → Sem Fin) (H : Value → Sem Fin) (gd : Bool → Bool) (lv : List Value → List Value) (pos : Pos) (F1 F2 : Frame) (B : List Frame), ∀ w : World,
   segGoT treeTable pw w 11 ann0 1 5 (L17 X j tk w os) ⟨(pyHash (.int v t)).wrap K H gd lv, cU17, pos, F1 :: F2 :: B⟩ = some (L17 X j (tk + 1) w os, ⟨K v, cU17, pos, F1 :: F2 :: B⟩)
noncomputable def lA17 (j : Nat) (X : Obj) (w : World) (os : OsState) (tk : Nat) (K : Option Value → Sem Fin) (H : Value → Sem Fin) (gd : Bool → Bool) (lv : List Value → List Value) (pos : Pos) (F1 F2 : Frame) (B : List Frame) : Option (SharedT × Thread) :=
   @PySem.W.Fast.tw10295753902157049106 (@PySem.W.Fast.tw14364793385576792824) pw w 11 ann0 1 10 (L17 X j tk w os) ⟨(@PySem.W.Fast.tw9404975358583537561 (.ref 190)).wrap K H gd lv, cU17, pos, F1 :: F2 :: B⟩
noncomputable def rA17 (j : Nat) (v : Int) (t : Nat) (X : Obj) (w : World) (os : OsState) (tk : Nat) (K : Option Value → Sem Fin) (H : Value → Sem Fin) (gd : Bool → Bool) (lv : List Value → List Value) (pos : Pos) (F1 F2 : Frame) (B : List Frame) : Option (SharedT × Thread) := some (L17 X (j + 1) tk w os, ⟨K (some (.int v t)), cU17, pos, F1 :: F2 :: B⟩)
noncomputable def lB17 (f : Bool) (v : Int) (t : Nat) (X : Obj) (os : OsState) (j tk : Nat) (K : Int → Sem Fin) (H : Value → Sem Fin) (gd : Bool → Bool) (lv : List Value → List Value) (pos : Pos) (F1 F2 : Frame) (B : List Frame) (w : World) : Option (SharedT × Thread) :=
   @PySem.W.Fast.tw10295753902157049106 (@PySem.W.Fast.tw14364793385576792824) pw (w.withFollow "special-get-raises" f) 11 ann0 1 5 (L17 X j tk (w.withFollow "special-get-raises" f) os) ⟨(@PySem.W.Fast.tw10540108854288196387 (.int v t)).wrap K H gd lv, cU17, pos, F1 :: F2 :: B⟩
noncomputable def rB17 (f : Bool) (v : Int) (X : Obj) (os : OsState) (j tk : Nat) (K : Int → Sem Fin) (H : Value → Sem Fin) (gd : Bool → Bool) (lv : List Value → List Value) (pos : Pos) (F1 F2 : Frame) (B : List Frame) (w : World) : Option (SharedT × Thread) := some (L17 X j (tk + 1) (w.withFollow "special-get-raises" f) os, ⟨K v, cU17, pos, F1 :: F2 :: B⟩)
theorem at17 : AllAt (fun j v t => lA17 j = rA17 j v t ∧ lB17 false v t = rB17 false v ∧ lB17 true v t = rB17 true v) 0 its17 := by
  iterate 15 (refine ⟨⟨by kernel_rfl, by kernel_rfl, by kernel_rfl⟩, ?_⟩)
  exact trivial
theorem SA17_of {j : Nat} {v : Int} {t : Nat} (h : its17[j]? = some (v, t)) : SA17 j v t := by
  have e := (at17.get h).1
  rw [Nat.zero_add] at e
  unfold SA17
  rw [q_sgo, q_tb, q_next]
  intro X w os tk K H gd lv pos F1 F2 B
  show lA17 j X w os tk K H gd lv pos F1 F2 B = rA17 j v t X w os tk K H gd lv pos F1 F2 B
  rw [e]
theorem SB17_of {j : Nat} {v : Int} {t : Nat} (h : its17[j]? = some (v, t)) : SB17 v t := by
  have e := (at17.get h).2
  unfold SB17
  rw [q_sgo, q_tb, q_hash]
  intro X os j0 tk K H gd lv pos F1 F2 B
  refine byRow2 "special-get-raises" (fun w => ?_) (fun w => ?_)
  · show lB17 false v t X os j0 tk K H gd lv pos F1 F2 B w = rB17 false v X os j0 tk K H gd lv pos F1 F2 B w
    rw [e.1]
  · show lB17 true v t X os j0 tk K H gd lv pos F1 F2 B w = rB17 true v X os j0 tk K H gd lv pos F1 F2 B w
    rw [e.2]
def SA19 (j : Nat) (v : Int) (t : Nat) : Prop := ∀ (X8 : Obj) (X : Obj) (w : World) (os : OsState) (tk : Nat) (K : Option Value → Sem Fin) (H : Value → Sem Fin) (gd : Bool → Bool) (lv : List Value → List Value) (pos : Pos) (F1 F2 : Frame) (B : List Frame),
   segGoT treeTable pw w 11 ann0 1 10 (L19 X8 X j tk w os) ⟨(pyNext (.ref 208)).wrap K H gd lv, cU19, pos, F1 :: F2 :: B⟩ = some (L19 X8 X (j + 1) tk w os, ⟨K (some (.int v t)), cU19, pos, F1 :: F2 :: B⟩)
def SB19 (v : Int) (t : Nat) : Prop := ∀ (X8 : Obj) (X : Obj) (os : OsState) (j tk : Nat) (K : Int → Sem Fin) (H : Value → Sem Fin) (gd : Bool → Bool) (lv : List Value → List Value) (pos : Pos) (F1 F2 : Frame) (B : List Frame), ∀ w : World,
   segGoT treeTable pw w 11 ann0 1 5 (L19 X8 X j tk w os) ⟨(pyHash (.int v t)).wrap K H gd lv, cU19, pos, F1 :: F2 :: B⟩ = some (L19 X8 X j (tk + 1) w os, ⟨K v, cU19, pos, F1 :: F2 :: B⟩)
noncomputable def lA19 (j : Nat) (X8 : Obj) (X : Obj) (w : World) (os : OsState) (tk : Nat) (K : Option Value → Sem Fin) (H : Value → Sem Fin) (gd : Bool → Bool) (lv : List Value → List Value) (pos : Pos) (F1 F2 : Frame) (B : List Frame) : Option (SharedT × Thread) :=
   @PySem.W.Fast.tw10295753902157049106 (@PySem.W.Fast.tw14364793385576792824) pw w 11 ann0 1 10 (L19 X8 X j tk w os) ⟨(@PySem.W.Fast.tw9404975358583537561 (.ref 208)).wrap K H gd lv, cU19, pos, F1 :: F2 :: B⟩
noncomputable def rA19 (j : Nat) (v : Int) (t : Nat) (X8 : Obj) (X : Obj) (w : World) (os : OsState) (tk : Nat) (K : Option Value → Sem Fin) (H : Value → Sem Fin) (gd : Bool → Bool) (lv : List Value → List Value) (pos : Pos) (F1 F2 : Frame) (B : List Frame) : Option (SharedT × Thread) := some (L19 X8 X (j + 1) tk w os, ⟨K (some (.int v t)), cU19, pos, F1 :: F2 :: B⟩)
noncomputable def lB19 (f : Bool) (v : Int) (t : Nat) (X8 : Obj) (X : Obj) (os : OsState) (j tk : Nat) (K : Int → Sem Fin) (H : Value → Sem Fin) (gd : Bool → Bool) (lv : List Value → List Value) (pos : Pos) (F1 F2 : Frame) (B : List Frame) (w : World) : Option (SharedT × Thread) :=
   @PySem.W.Fast.tw10295753902157049106 (@PySem.W.Fast.tw14364793385576792824) pw (w.withFollow "special-get-raises" f) 11 ann0 1 5 (L19 X8 X j tk (w.withFollow "special-get-raises" f) os) ⟨(@PySem.W.Fast.tw10540108854288196387 (.int v t)).wrap K H gd lv, cU19, pos, F1 :: F2 :: B⟩
noncomputable def rB19 (f : Bool) (v : Int) (X8 : Obj) (X : Obj) (os : OsState) (j tk : Nat) (K : Int → Sem Fin) (H : Value → Sem Fin) (gd : Bool → Bool) (lv : List Value → List Value) (pos : Pos) (F1 F2 : Frame) (B : List Frame) (w : World) : Option (SharedT × Thread) := some (L19 X8 X j (tk + 1) (w.withFollow "special-get-raises" f) os, ⟨K v, cU19, pos, F1 :: F2 :: B⟩)
theorem at19 : AllAt (fun j v t => lA19 j = rA19 j v t ∧ lB19 false v t = rB19 false v ∧ lB19 true v t = rB19 true v) 0 its19 := by
  iterate 97 (refine ⟨⟨by kernel_rfl, by kernel_rfl, by kernel_rfl⟩, ?_⟩)
  exact trivial
theorem SA19_of {j : Nat} {v : Int} {t : Nat} (h : its19[j]? = some (v, t)) : SA19 j v t := by
  have e := (at19.get h).1
  rw [Nat.zero_add] at e
  unfold SA19
  rw [q_sgo, q_tb, q_next]
  intro X8 X w os tk K H gd lv pos F1 F2 B
  show lA19 j X8 X w os tk K H gd lv pos F1 F2 B = rA19 j v t X8 X w os tk K H gd lv pos F1 F2 B
  rw [e]
theorem SB19_of {j : Nat} {v : Int} {t : Nat} (h : its19[j]? = some (v, t)) : SB19 v t := by
  have e := (at19.get h).2
  unfold SB19
  rw [q_sgo, q_tb, q_hash]
  intro X8 X os j0 tk K H gd lv pos F1 F2 B
  refine byRow2 "special-get-raises" (fun w => ?_) (fun w => ?_)
  · show lB19 false v t X8 X os j0 tk K H gd lv pos F1 F2 B w = rB19 false v X8 X os j0 tk K H gd lv pos F1 F2 B w
    rw [e.1]
  · show lB19 true v t X8 X os j0 tk K H gd lv pos F1 F2 B w = rB19 true v X8 X os j0 tk K H gd lv pos F1 F2 B w
    rw [e.2]
section
variable {w : World} {S : SharedT} {c : Code} {q : Pos} {F1 F2 : Frame} {B : List Frame} {n : Nat}
theorem endAt_two {cur : Sem Fin} : endAt 1 ⟨cur, c, q, F1 :: F2 :: B⟩ = none := by
  unfold endAt
  have : ((F1 :: F2 :: B).length == 1) = false := by simp
  rw [this]
theorem sg_load {a : Addr} {p : Option Value} {k : Obj → Sem Fin} {o : Obj} (h1 : Nat.blt a S.n = true) (h2 : S.tree.get a = some o) (h3 : alive o = some o)
    (hk : stepOk 11 ann0 ⟨.load a p k, c, q, F1 :: F2 :: B⟩ = true) :
    segGoT treeTable pw w 11 ann0 1 (n + 1) S ⟨.load a p k, c, q, F1 :: F2 :: B⟩ = segGoT treeTable pw w 11 ann0 1 n S ⟨k o, c, q, F1 :: F2 :: B⟩ := by
  rw [segGoT, endAt_two, hk]
  obtain ⟨T, N, life, gens, drawn, toks, os⟩ := S
  simp only [stepT] at h1 h2 ⊢
  rw [h1, h2]
  simp only [h3]
theorem sg_update {a : Addr} {p : Option Value} {f : Obj → Obj} {k : Unit → Sem Fin} {o : Obj} (h1 : Nat.blt a S.n = true) (h2 : S.tree.get a = some o) (h3 : alive o = some o)
    (hk : stepOk 11 ann0 ⟨.update a p f k, c, q, F1 :: F2 :: B⟩ = true) :
    segGoT treeTable pw w 11 ann0 1 (n + 1) S ⟨.update a p f k, c, q, F1 :: F2 :: B⟩ = segGoT treeTable pw w 11 ann0 1 n { S with tree := S.tree.set a f } ⟨k (), c, q, F1 :: F2 :: B⟩ := by
  rw [segGoT, endAt_two, hk]
  obtain ⟨T, N, life, gens, drawn, toks, os⟩ := S
  simp only [stepT] at h1 h2 ⊢
  rw [h1, h2]
  simp only [h3]
theorem sg_rule {t : String} {k : Unit → Sem Fin} (hk : stepOk 11 ann0 ⟨.rule t k, c, q, F1 :: F2 :: B⟩ = true) :
    segGoT treeTable pw w 11 ann0 1 (n + 1) S ⟨.rule t k, c, q, F1 :: F2 :: B⟩ = segGoT treeTable pw w 11 ann0 1 n S ⟨k (), c, q, F1 :: F2 :: B⟩ := by
  rw [segGoT, endAt_two, hk]
  obtain ⟨T, N, life, gens, drawn, toks, os⟩ := S
  rfl
theorem sg_zero {t : Thread} : segGoT treeTable pw w 11 ann0 1 0 S t = some (S, t) := rfl
end
def addP (z : Array (Int × Value) × Nat × SetTable) (h : Int) (x : Value) : Array (Int × Value) × Nat × SetTable :=
  let r := layNew z.2.2 z.1 h x
  if (!r.2.2.1 && r.2.1.tooFull) = true then
    let y := relayAll r.2.1 r.1 (SetTable.grown r.1.size)
    (y.1, z.2.1 + 1 + 1, y.2.1)
  else (r.1, z.2.1 + 1, r.2.1)
theorem scan_absent {a : Addr} {x : Value} {h : Int} {ad : Bool} : ∀ {l : List (Int × Value)} {i : Nat}, (∀ e ∈ l, (e.1 == h) = false) → setScanFrom a x h ad l i = pure .absent
  | [], _, _ => rfl
  | (h', y) :: r, i, H => by
    unfold setScanFrom
    rw [show (h' == h) = false from H (h', y) (.head _)]
    simp only [Bool.false_eq_true, if_false]
    show (pure () >>= fun _ => setScanFrom a x h ad r (i + 1)) = _
    rw [scan_absent (fun e he => H e (.tail _ he))]
    rfl
structure SetOk (es : Array (Int × Value)) (t : SetTable) : Prop where
  fits : t.place.size = es.size
  fill : t.fill ≤ t.mask
  vals : ∀ e ∈ es.toList, ∃ tk, e.2 = .int e.1 tk
theorem setState_tree {α : Type} {a : Addr} {F : Array (Int × Value) × Nat × SetTable → Sem α} : (setState a >>= F) = .load a none (fun o => (match o.data with
    | .set es n t => (if (t.place.size != es.size || decide (t.fill > t.mask)) = true then unsupported "internal:set-table-does-not-fit-its-elements" else pure (es, n, t)) 
    | _ => unsupported "internal:not-a-set" : Sem _) >>= F) := by
  refine congrArg (Sem.load a none) (funext fun o => ?_)
  refine congrArg (fun x => Sem.bind x F) ?_
  show (match o.data with | .set es n t => _ | _ => _) = _
  cases o.data <;> first | rfl | (dsimp only; split <;> rfl)
theorem storeSet_tree {α : Type} {a : Addr} {es' : Array (Int × Value)} {t' : SetTable} (hsz : ¬ es'.size > sizeLine) {F : Unit → Sem α} : (storeSet a es' t' >>= F) = .load a none (fun o => (match o.data with
    | .set .. => Sem.update a none (Obj.putSet es' t') .pure
    | _ => unsupported "internal:write-to-non-set" : Sem Unit) >>= F) := by
  refine congrArg (Sem.load a none) (funext fun o => ?_)
  refine congrArg (fun x => Sem.bind x F) ?_
  show (match o.data with | .set .. => _ | _ => _) = _
  cases o.data <;> first | rfl | (show (if es'.size > sizeLine then _ else _) = _; rw [if_neg hsz]; rfl)
def gaveT : Bool → Sem Unit
  | true => rule "set.scan.the-table-gave-way"
  | false => pure ()
theorem byScan_tree {a : Addr} {v : Int} {tk : Nat} {es : Array (Int × Value)} {t : SetTable} (hab : ∀ e ∈ es.toList, (e.1 == v) = false) :
    setAddByScan a (.int v tk) v es t = (do
      rule "set.add.by-scan"
      let r := layNew t es v (.int v tk)
      gaveT r.2.2.2
      storeSet a r.1 r.2.1
      if (!r.2.2.1 && r.2.1.tooFull) = true then
        let y := relayAll r.2.1 r.1 (SetTable.grown r.1.size)
        gaveT y.2.2
        storeSet a y.1 y.2.1
      return some true) := by
  unfold setAddByScan
  have : setScan a (.int v tk) v true es = pure .absent := scan_absent hab
  rw [this]
  generalize layNew t es v (.int v tk) = r
  obtain ⟨e1, t1, d, g⟩ := r
  refine congrArg (Sem.rule "set.add.by-scan") (funext fun _ => ?_)
  have key : ∀ (X : Sem (Option Bool)), X = (if (!d && t1.tooFull) = true then (let y := relayAll t1 e1 (SetTable.grown e1.size); gaveT y.2.2 >>= fun _ => storeSet a y.1 y.2.1 >>= fun _ => pure (some true)) else pure (some true)) →
      (if t1.plain = true then (Sem.bind (storeSet a e1 t1) fun _ => X) else (Sem.bind (storeSet a e1 t1) fun _ => X)) = (Sem.bind (storeSet a e1 t1) fun _ => (if (!d && t1.tooFull) = true then (let y := relayAll t1 e1 (SetTable.grown e1.size); gaveT y.2.2 >>= fun _ => storeSet a y.1 y.2.1 >>= fun _ => pure (some true)) else pure (some true))) := by
    intro X h
    rw [h]
    split <;> rfl
  have key2 : ∀ (g : Bool) (L R : Sem (Option Bool)), L = R → Sem.bind (gaveT g) (fun _ => L) = Sem.bind (gaveT g) (fun _ => R) := fun _ _ _ h => by rw [h]
  cases g
  · refine key _ ?_
    dsimp only
    simp only [if_true]
    split
    · generalize relayAll t1 e1 (SetTable.grown e1.size) = y
      obtain ⟨e2, t2, g2⟩ := y
      cases g2 <;> rfl
    · rfl
  · refine congrArg (Sem.rule "set.scan.the-table-gave-way") (funext fun _ => ?_)
    refine key _ ?_
    dsimp only
    simp only [if_true]
    split
    · generalize relayAll t1 e1 (SetTable.grown e1.size) = y
      obtain ⟨e2, t2, g2⟩ := y
      cases g2 <;> rfl
    · rfl
theorem insertAt_list {α : Type} (xs : Array α) (p : Nat) (x : α) : (SetTable.insertAt xs p x).toList = xs.toList.take p ++ x :: xs.toList.drop p := by
  unfold SetTable.insertAt
  simp only [Array.toList_append, Array.toList_push, Array.toList_extract, List.extract_eq_take_drop, List.append_assoc]
  simp
  rw [List.take_of_length_le]
  simp
theorem insertAt_perm {α : Type} (xs : Array α) (p : Nat) (x : α) : (SetTable.insertAt xs p x).toList.Perm (x :: xs.toList) := by
  rw [insertAt_list]
  refine List.perm_middle.trans ?_
  rw [List.take_append_drop]
theorem standIn_fits (t : SetTable) (n : Nat) : (t.standIn n).place.size = n ∧ (t.standIn n).fill ≤ (t.standIn n).mask := by
  refine ⟨by simp [SetTable.standIn], ?_⟩
  simp [SetTable.standIn, SetTable.fill]; omega
theorem fits_is {t : SetTable} {n : Nat} (h : t.fits n = true) : t.place.size = n ∧ t.fill ≤ t.mask := by
  unfold SetTable.fits at h
  simp only [Bool.and_eq_true, beq_iff_eq, decide_eq_true_eq] at h
  exact h
theorem orStandIn_fits (t : SetTable) (n : Nat) : (t.orStandIn n).place.size = n ∧ (t.orStandIn n).fill ≤ (t.orStandIn n).mask := by
  unfold SetTable.orStandIn
  split
  · rename_i h; exact fits_is h
  · exact standIn_fits t n
theorem perm_size {α : Type} {a : Array α} {l : List α} (h : a.toList.Perm l) : a.size = l.length := by rw [← h.length_eq, Array.length_toList]
theorem layNew_ok {t : SetTable} {es : Array (Int × Value)} {v : Int} {tk : Nat} (ok : SetOk es t) :
    SetOk (layNew t es v (.int v tk)).1 (layNew t es v (.int v tk)).2.1 ∧ (layNew t es v (.int v tk)).1.toList.Perm ((v, .int v tk) :: es.toList) := by
  have vals : ∀ {a : Array (Int × Value)}, a.toList.Perm ((v, .int v tk) :: es.toList) → ∀ e ∈ a.toList, ∃ tk, e.2 = .int e.1 tk := fun h e he => by
    rcases List.mem_cons.mp (h.mem_iff.mp he) with rfl | h'
    · exact ⟨tk, rfl⟩
    · exact ok.vals e h'
  unfold layNew
  split
  · rename_i slot d hs
    generalize hp : t.put slot = y
    obtain ⟨t', p⟩ := y
    dsimp only
    have hperm := insertAt_perm es p (v, Value.int v tk)
    have q := orStandIn_fits t' (SetTable.insertAt es p (v, Value.int v tk)).size
    exact ⟨⟨q.1, q.2, vals hperm⟩, hperm⟩
  · have hperm : (es.push (v, Value.int v tk)).toList.Perm ((v, .int v tk) :: es.toList) := by
      rw [Array.toList_push]; exact (List.perm_append_singleton _ _)
    have q := standIn_fits t (es.size + 1)
    exact ⟨⟨by rw [Array.size_push]; exact q.1, q.2, vals hperm⟩, hperm⟩
theorem range_filterMap {α : Type} (l : List α) : (List.range l.length).filterMap (l[·]?) = l := by
  induction l with
  | nil => rfl
  | cons a l ih =>
    rw [List.length_cons, List.range_succ_eq_map, List.filterMap_cons]
    simp only [List.getElem?_cons_zero, List.filterMap_map]
    congr 1
theorem relayAll_ok {t : SetTable} {es : Array (Int × Value)} {n : Nat} (ok : SetOk es t) :
    SetOk (relayAll t es n).1 (relayAll t es n).2.1 ∧ (relayAll t es n).1.toList.Perm es.toList := by
  unfold relayAll
  split
  · rename_i t' order _
    dsimp only
    split
    · rename_i h
      obtain ⟨h1, h2⟩ := Bool.and_eq_true_iff.mp h
      have hp : (order.filterMap (es[·]?)).toList.Perm es.toList := by
        rw [Array.toList_filterMap]
        have p1 : order.toList.Perm (List.range es.size) := List.isPerm_iff.mp h1
        refine (p1.filterMap _).trans ?_
        have := range_filterMap es.toList
        rw [Array.length_toList] at this
        have e : (fun i : Nat => es[i]?) = fun i => es.toList[i]? := by funext i; rw [Array.getElem?_toList]
        rw [e, this]
      have q := fits_is h2
      exact ⟨⟨q.1, q.2, fun e he => ok.vals e (hp.mem_iff.mp he)⟩, hp⟩
    · have q := standIn_fits t es.size
      exact ⟨⟨q.1, q.2, ok.vals⟩, .refl _⟩
  · have q := standIn_fits t es.size
    exact ⟨⟨q.1, q.2, ok.vals⟩, .refl _⟩
theorem addP_ok {t : SetTable} {es : Array (Int × Value)} {k : Nat} {v : Int} {tk : Nat} (ok : SetOk es t) :
    SetOk (addP (es, k, t) v (.int v tk)).1 (addP (es, k, t) v (.int v tk)).2.2 ∧ (addP (es, k, t) v (.int v tk)).1.toList.Perm ((v, .int v tk) :: es.toList) := by
  unfold addP
  dsimp only
  have a := layNew_ok (v := v) (tk := tk) ok
  split
  · have b := relayAll_ok (n := SetTable.grown (layNew t es v (.int v tk)).1.size) a.1
    exact ⟨b.1, b.2.trans a.2⟩
  · exact a
section
variable {w : World} {c : Code} {q : Pos} {F1 F2 : Frame} {B : List Frame} {a : Addr} {S : Obj → SharedT}
structure Works (w : World) (c : Code) (q : Pos) (F1 F2 : Frame) (B : List Frame) (a : Addr) (S : Obj → SharedT) : Prop where
  get : ∀ X, (S X).tree.get a = some X
  set : ∀ X f, { S X with tree := (S X).tree.set a f } = S (f X)
  lt : ∀ X, Nat.blt a (S X).n = true
  ok1 : ∀ b p k, stepOk 11 ann0 ⟨.load b p k, c, q, F1 :: F2 :: B⟩ = true
  ok2 : ∀ p f k, stepOk 11 ann0 ⟨.update a p f k, c, q, F1 :: F2 :: B⟩ = true
  ok3 : ∀ t k, stepOk 11 ann0 ⟨.rule t k, c, q, F1 :: F2 :: B⟩ = true
abbrev SG (w : World) (m : Nat) (s : SharedT) (t : Thread) : Option (SharedT × Thread) := segGoT treeTable pw w 11 ann0 1 m s t
theorem alive_set (es : Array (Int × Value)) (n : Nat) (t : SetTable) : alive (sObj es n t) = some (sObj es n t) := rfl
theorem run_gave (W : Works w c q F1 F2 B a S) {X : Obj} {g : Bool} {k : Unit → Sem Fin} {m : Nat} :
    ∃ j, j ≤ 1 ∧ SG w (m + j) (S X) ⟨(gaveT g).wrap k .raise id id, c, q, F1 :: F2 :: B⟩ = SG w m (S X) ⟨k (), c, q, F1 :: F2 :: B⟩ := by
  cases g with
  | false => exact ⟨0, by omega, rfl⟩
  | true => exact ⟨1, by omega, sg_rule (W.ok3 _ _)⟩
theorem run_gave' (W : Works w c q F1 F2 B a S) {X : Obj} {g : Bool} {β : Type} {f : Unit → Sem β} {K : β → Sem Fin} {H : Value → Sem Fin} {gd : Bool → Bool} {lv : List Value → List Value} {m : Nat} :
    ∃ j, j ≤ 1 ∧ SG w (m + j) (S X) ⟨(gaveT g >>= f).wrap K H gd lv, c, q, F1 :: F2 :: B⟩ = SG w m (S X) ⟨(f ()).wrap K H gd lv, c, q, F1 :: F2 :: B⟩ := by
  cases g with
  | false => exact ⟨0, by omega, rfl⟩
  | true => exact ⟨1, by omega, sg_rule (W.ok3 _ _)⟩
theorem run_store (W : Works w c q F1 F2 B a S) {es es' : Array (Int × Value)} {n : Nat} {t t' : SetTable} (hsz : ¬ es'.size > sizeLine) {β : Type} {f : Unit → Sem β} {K : β → Sem Fin} {H : Value → Sem Fin} {gd : Bool → Bool} {lv : List Value → List Value} {m : Nat} :
    SG w (m + 2) (S (sObj es n t)) ⟨(storeSet a es' t' >>= f).wrap K H gd lv, c, q, F1 :: F2 :: B⟩ = SG w m (S (sObj es' (n + 1) t')) ⟨(f ()).wrap K H gd lv, c, q, F1 :: F2 :: B⟩ := by
  rw [storeSet_tree hsz]
  refine (sg_load (o := sObj es n t) (W.lt _) (W.get _) (alive_set _ _ _) (W.ok1 _ _ _)).trans ?_
  refine (sg_update (o := sObj es n t) (W.lt _) (W.get _) (alive_set _ _ _) (W.ok2 _ _ _)).trans ?_
  rw [W.set]
  rfl
theorem run_state (W : Works w c q F1 F2 B a S) {es : Array (Int × Value)} {n : Nat} {t : SetTable} (ok : SetOk es t) {β : Type} {f : Array (Int × Value) × Nat × SetTable → Sem β} {K : β → Sem Fin} {H : Value → Sem Fin} {gd : Bool → Bool} {lv : List Value → List Value} {m : Nat} :
    SG w (m + 1) (S (sObj es n t)) ⟨(setState a >>= f).wrap K H gd lv, c, q, F1 :: F2 :: B⟩ = SG w m (S (sObj es n t)) ⟨(f (es, n, t)).wrap K H gd lv, c, q, F1 :: F2 :: B⟩ := by
  rw [setState_tree]
  refine (sg_load (o := sObj es n t) (W.lt _) (W.get _) (alive_set _ _ _) (W.ok1 _ _ _)).trans ?_
  have c1 : (t.place.size != es.size || decide (t.fill > t.mask)) = false := by
    rw [ok.fits]; simp; exact ok.fill
  dsimp only [sObj]
  rw [c1]
  rfl
theorem add_run (W : Works w c q F1 F2 B a S) {es : Array (Int × Value)} {n : Nat} {t : SetTable} {v : Int} {tk : Nat} (ok : SetOk es t) (hsz : es.size < 4000) (hab : ∀ e ∈ es.toList, (e.1 == v) = false)
    {K : Bool → Sem Fin} {H : Value → Sem Fin} {gd : Bool → Bool} {lv : List Value → List Value} :
    ∃ m, m ≤ 8 ∧ SG w m (S (sObj es n t)) ⟨(setAddHashed a (.int v tk) v).wrap K H gd lv, c, q, F1 :: F2 :: B⟩ =
      some (S (sObj (addP (es, n, t) v (.int v tk)).1 (addP (es, n, t) v (.int v tk)).2.1 (addP (es, n, t) v (.int v tk)).2.2), ⟨K true, c, q, F1 :: F2 :: B⟩) := by
  have c2 : byScan (.int v tk) es = true := by
    unfold byScan
    have : es.all (·.2.scannable) = true := by
      rw [Array.all_eq_true_iff_forall_mem]
      intro e he
      obtain ⟨k, hk⟩ := ok.vals e (by simpa using he)
      rw [hk]; rfl
    rw [this]
    have h1 : es.size < scanBound := Nat.lt_trans hsz (by decide)
    simp [Value.scannable, h1]
  have l1 := layNew_ok (v := v) (tk := tk) ok
  have z1 : (layNew t es v (.int v tk)).1.size = es.size + 1 := by rw [perm_size l1.2, List.length_cons, Array.length_toList]
  have b1 : ¬ (layNew t es v (.int v tk)).1.size > sizeLine := by rw [z1]; show ¬ es.size + 1 > 2 ^ 24; omega
  have l2 := relayAll_ok (n := SetTable.grown (layNew t es v (.int v tk)).1.size) l1.1
  have z2 : (relayAll (layNew t es v (.int v tk)).2.1 (layNew t es v (.int v tk)).1 (SetTable.grown (layNew t es v (.int v tk)).1.size)).1.size = es.size + 1 := by rw [perm_size l2.2, Array.length_toList, z1]
  have b2 : ¬ (relayAll (layNew t es v (.int v tk)).2.1 (layNew t es v (.int v tk)).1 (SetTable.grown (layNew t es v (.int v tk)).1.size)).1.size > sizeLine := by rw [z2]; show ¬ es.size + 1 > 2 ^ 24; omega
  have E : ∃ G : Array (Int × Value) × Nat × SetTable → Sem Bool, setAddHashedIn a (.int v tk) v (99999 + 1) = setState a >>= fun z => (if byScan (.int v tk) z.1 = true then (setAddByScan a (.int v tk) v z.1 z.2.2 >>= fun r => (match r with
      | some added => pure added
      | none => setAddHashedIn a (.int v tk) v 99999)) else G z) := ⟨_, rfl⟩
  obtain ⟨G, E⟩ := E
  have T : (setAddByScan a (.int v tk) v es t >>= fun r => (match r with
      | some added => pure added
      | none => setAddHashedIn a (.int v tk) v 99999)) = (rule "set.add.by-scan" >>= fun _ => gaveT (layNew t es v (.int v tk)).2.2.2 >>= fun _ => storeSet a (layNew t es v (.int v tk)).1 (layNew t es v (.int v tk)).2.1 >>= fun _ =>
        (if (!(layNew t es v (.int v tk)).2.2.1 && (layNew t es v (.int v tk)).2.1.tooFull) = true then
          (gaveT (relayAll (layNew t es v (.int v tk)).2.1 (layNew t es v (.int v tk)).1 (SetTable.grown (layNew t es v (.int v tk)).1.size)).2.2 >>= fun _ =>
           storeSet a (relayAll (layNew t es v (.int v tk)).2.1 (layNew t es v (.int v tk)).1 (SetTable.grown (layNew t es v (.int v tk)).1.size)).1 (relayAll (layNew t es v (.int v tk)).2.1 (layNew t es v (.int v tk)).1 (SetTable.grown (layNew t es v (.int v tk)).1.size)).2.1 >>= fun _ => pure true)
          else pure true) : Sem Bool) := by
    rw [byScan_tree hab]
    simp only [bind_assoc, pure_bind]
    refine congrArg (Bind.bind _) (funext fun _ => congrArg (Bind.bind _) (funext fun _ => congrArg (Bind.bind _) (funext fun _ => ?_)))
    split <;> simp only [bind_assoc, pure_bind]
  generalize hr : layNew t es v (.int v tk) = r at *
  generalize hy : relayAll r.2.1 r.1 (SetTable.grown r.1.size) = y at *
  have hadd : addP (es, n, t) v (.int v tk) = if (!r.2.2.1 && r.2.1.tooFull) = true then (y.1, n + 1 + 1, y.2.1) else (r.1, n + 1, r.2.1) := by
    unfold addP
    dsimp only
    rw [hr, hy]
  have first : ∀ m, SG w (m + 1 + 1) (S (sObj es n t)) ⟨(setAddHashed a (.int v tk) v).wrap K H gd lv, c, q, F1 :: F2 :: B⟩ =
      SG w m (S (sObj es n t)) ⟨(gaveT r.2.2.2 >>= fun _ => storeSet a r.1 r.2.1 >>= fun _ => (if (!r.2.2.1 && r.2.1.tooFull) = true then (gaveT y.2.2 >>= fun _ => storeSet a y.1 y.2.1 >>= fun _ => pure true) else pure true) : Sem Bool).wrap K H gd lv, c, q, F1 :: F2 :: B⟩ := by
    intro m
    show SG w (m + 1 + 1) (S (sObj es n t)) ⟨(setAddHashedIn a (.int v tk) v (99999 + 1)).wrap K H gd lv, c, q, F1 :: F2 :: B⟩ = _
    rw [E]
    refine (run_state W ok).trans ?_
    dsimp only
    rw [if_pos c2, T]
    exact sg_rule (W.ok3 _ _)
  rw [hadd]
  by_cases hf : (!r.2.2.1 && r.2.1.tooFull) = true
  · simp only [if_pos hf]
    obtain ⟨j2, hj2, e2⟩ := run_gave' (m := 0 + 2) W (X := sObj r.1 (n + 1) r.2.1) (g := y.2.2) (f := fun _ => (storeSet a y.1 y.2.1 >>= fun _ => pure true : Sem Bool)) (K := K) (H := H) (gd := gd) (lv := lv)
    obtain ⟨j1, hj1, e1⟩ := run_gave' (m := 0 + 2 + j2 + 2) W (X := sObj es n t) (g := r.2.2.2) (f := fun _ => (storeSet a r.1 r.2.1 >>= fun _ => (gaveT y.2.2 >>= fun _ => storeSet a y.1 y.2.1 >>= fun _ => pure true) : Sem Bool)) (K := K) (H := H) (gd := gd) (lv := lv)
    refine ⟨0 + 2 + j2 + 2 + j1 + 1 + 1, by omega, ?_⟩
    rw [first]
    simp only [if_pos hf]
    rw [e1, run_store W b1, e2, run_store W b2]
    rfl
  · simp only [if_neg hf]
    obtain ⟨j1, hj1, e1⟩ := run_gave' (m := 0 + 2) W (X := sObj es n t) (g := r.2.2.2) (f := fun _ => (storeSet a r.1 r.2.1 >>= fun _ => pure true : Sem Bool)) (K := K) (H := H) (gd := gd) (lv := lv)
    refine ⟨0 + 2 + j1 + 1 + 1, by omega, ?_⟩
    rw [first]
    simp only [if_neg hf]
    rw [e1, run_store W b1]
    rfl
end
theorem sg_comp {w : World} : ∀ {a b : Nat} {S S' : SharedT} {t t' : Thread}, SG w a S t = some (S', t') → SG w (a + b) S t = SG w b S' t'
  | 0, b, S, S', t, t', h => by
    obtain ⟨rfl, rfl⟩ : S = S' ∧ t = t' := by simpa [SG, segGoT] using h
    rw [Nat.zero_add]
  | a + 1, b, S, S', t, t', h => by
    rw [show a + 1 + b = a + b + 1 by omega]
    unfold SG at h ⊢
    rw [segGoT] at h
    rw [segGoT]
    cases he : endAt 1 t with
    | some f => rw [he] at h; cases h
    | none =>
      rw [he] at h
      cases hk : stepOk 11 ann0 t with
      | false => rw [hk] at h; cases h
      | true =>
        rw [hk] at h
        cases hs : stepT (denote treeTable) pw w S t with
        | none => rw [hs] at h; cases h
        | some r => rw [hs] at h; exact sg_comp h
theorem loop_entry : entryFor treeTable "set.update.loop" = some Builtin.«set.update.loop» := by kernel_rfl
theorem loop_tree (s it : Addr) : ∃ N : Sem PySem.Fin, denote treeTable (.builtin "set.update.loop" ⟨[.ref s, .ref it], []⟩) = pyNext (.ref it) >>= fun r => (match r with
    | some x => holding [x] (setAdd s x) >>= fun _ => again (.builtin "set.update.loop" ⟨[.ref s, .ref it], []⟩)
    | none => N) := by
  refine ⟨ret .none, ?_⟩
  · rw [denote]
    simp only [loop_entry]
    refine congrArg (Sem.bind (pyNext (.ref it))) (funext fun r => ?_)
    cases r <;> rfl
theorem setAdd_int (s : Addr) (v : Int) (t : Nat) : holding [.int v t] (setAdd s (.int v t)) = pyHash (.int v t) >>= fun h => setAddHashed s (.int v t) h := rfl
def z0 (P : Params) : Array (Int × Value) × Nat × SetTable := (#[], 0, { SetTable.fresh 0 0 (!P.followText "set-order") with plain := true })
@[irreducible] def zs (l : List (Int × Nat)) (z : Array (Int × Value) × Nat × SetTable) : Array (Int × Value) × Nat × SetTable := l.foldl (fun z it => addP z it.1 (.int it.1 it.2)) z
abbrev zO (z : Array (Int × Value) × Nat × SetTable) : Obj := sObj z.1 z.2.1 z.2.2
theorem zs_ok : ∀ (l : List (Int × Nat)) (z : Array (Int × Value) × Nat × SetTable), SetOk z.1 z.2.2 → SetOk (zs l z).1 (zs l z).2.2 ∧ (zs l z).1.toList.Perm ((l.map fun p => (p.1, Value.int p.1 p.2)).reverse ++ z.1.toList)
  | [], z, h => by unfold zs; exact ⟨h, .refl _⟩
  | p :: l, z, h => by
    have hz : zs (p :: l) z = zs l (addP z p.1 (.int p.1 p.2)) := by unfold zs; rfl
    rw [hz]
    obtain ⟨es, n, t⟩ := z
    have a := addP_ok (k := n) (v := p.1) (tk := p.2) h
    have b := zs_ok l (addP (es, n, t) p.1 (.int p.1 p.2)) a.1
    refine ⟨b.1, b.2.trans ?_⟩
    rw [List.map_cons, List.reverse_cons, List.append_assoc]
    exact List.Perm.append_left _ a.2
theorem z0_ok (P : Params) : SetOk (z0 P).1 (z0 P).2.2 := ⟨rfl, by show 0 ≤ 7; omega, fun e he => nomatch he⟩
theorem zs_snoc (l : List (Int × Nat)) (p : Int × Nat) (z : Array (Int × Value) × Nat × SetTable) : zs (l ++ [p]) z = addP (zs l z) p.1 (.int p.1 p.2) := by
  unfold zs; rw [List.foldl_append]; rfl
theorem works17 (j tk : Nat) (w : World) (os : OsState) (q : Pos) (F1 F2 : Frame) (B : List Frame) : Works w cU17 q F1 F2 B 189 (fun X => L17 X j tk w os) :=
  ⟨fun X => by kernel_rfl, fun X f => by kernel_rfl, fun X => by kernel_rfl, fun b p k => by kernel_rfl, fun p f k => by kernel_rfl, fun t k => by kernel_rfl⟩
theorem again17 (S : SharedT) (w : World) (q : Pos) (F1 F2 : Frame) (B : List Frame) : SG w 1 S ⟨again cU17, cU17, q, F1 :: F2 :: B⟩ = some (S, ⟨denote treeTable cU17, cU17, q, F1 :: F2 :: B⟩) := by
  unfold SG segGoT
  rw [endAt_two, show stepOk 11 ann0 ⟨again cU17, cU17, q, F1 :: F2 :: B⟩ = true by kernel_rfl]
  obtain ⟨T, N, life, gens, drawn, toks, os⟩ := S
  rfl
theorem turn17 (z : Array (Int × Value) × Nat × SetTable) (j tk : Nat) (v : Int) (t : Nat) (h : its17[j]? = some (v, t)) (ok : SetOk z.1 z.2.2) (hsz : z.1.size < 4000) (hab : ∀ e ∈ z.1.toList, (e.1 == v) = false) (w : World) (os : OsState) (q : Pos) (F1 F2 : Frame) (B : List Frame) :
    ∃ m, m ≤ 24 ∧ SG w m (L17 (zO z) j tk w os) ⟨denote treeTable cU17, cU17, q, F1 :: F2 :: B⟩ = some (L17 (zO (addP z v (.int v t))) (j + 1) (tk + 1) w os, ⟨denote treeTable cU17, cU17, q, F1 :: F2 :: B⟩) := by
  obtain ⟨es, n, tb⟩ := z
  obtain ⟨N, e⟩ := loop_tree 189 190
  obtain ⟨m, hm, hC⟩ := add_run (works17 (j + 1) (tk + 1) w os q F1 F2 B) (n := n) (tk := t) ok hsz hab (K := fun _ => again cU17) (H := .raise) (gd := id) (lv := id)
  refine ⟨10 + (5 + (m + 1)), by omega, ?_⟩
  refine Eq.trans (congrArg (fun c => SG w _ _ ⟨c, cU17, q, F1 :: F2 :: B⟩) e) ?_
  have hA := SA17_of h (zO (es, n, tb)) w os tk (fun r => (match r with
    | some x => holding [x] (setAdd 189 x) >>= fun _ => again cU17
    | none => N)) .raise id id q F1 F2 B
  have hB := SB17_of h (zO (es, n, tb)) os (j + 1) tk (fun h => setAddHashed 189 (.int v t) h >>= fun _ => again cU17) .raise id id q F1 F2 B w
  rw [Sem.bind_eq_wrap', sg_comp hA]
  dsimp only
  rw [setAdd_int, bind_assoc, Sem.bind_eq_wrap', sg_comp hB, Sem.bind_eq_wrap', sg_comp hC]
  exact again17 _ w q F1 F2 B
theorem nodup17 : (its17.map (·.1)).Nodup := by decide +kernel
theorem loop17 (w : World) (os : OsState) (q : Pos) (F1 F2 : Frame) (B : List Frame) : ∀ j, j ≤ 15 → ∃ m, m ≤ 24 * j ∧
    SG w m (L17 (zO (z0 w.params)) 0 404 w os) ⟨denote treeTable cU17, cU17, q, F1 :: F2 :: B⟩ = some (L17 (zO (zs (its17.take j) (z0 w.params))) j (404 + j) w os, ⟨denote treeTable cU17, cU17, q, F1 :: F2 :: B⟩)
  | 0, _ => ⟨0, Nat.le_refl _, by unfold zs; rfl⟩
  | j + 1, hj => by
    obtain ⟨m, hm, e⟩ := loop17 w os q F1 F2 B j (by omega)
    have hl : its17.length = 15 := rfl
    have hlt : j < its17.length := by omega
    have hi : its17[j]? = some its17[j] := List.getElem?_eq_getElem hlt
    generalize hp : its17[j] = p at hi
    obtain ⟨v, t⟩ := p
    have Z := zs_ok (its17.take j) (z0 w.params) (z0_ok _)
    have hperm : (zs (its17.take j) (z0 w.params)).1.toList.Perm ((its17.take j).map fun p => (p.1, Value.int p.1 p.2)).reverse := by
      have := Z.2
      rwa [show (z0 w.params).1.toList = [] from rfl, List.append_nil] at this
    have hsz : (zs (its17.take j) (z0 w.params)).1.size < 4000 := by
      rw [perm_size hperm, List.length_reverse, List.length_map, List.length_take]; omega
    have hab : ∀ e ∈ (zs (its17.take j) (z0 w.params)).1.toList, (e.1 == v) = false := by
      intro e he
      have he' := hperm.mem_iff.mp he
      rw [List.mem_reverse, List.mem_map] at he'
      obtain ⟨p, hpm, rfl⟩ := he'
      obtain ⟨i, hi1, hi2⟩ := List.mem_take_iff_getElem.mp hpm
      have nd := nodup17
      rw [List.nodup_iff_pairwise_ne, List.pairwise_iff_getElem] at nd
      have := nd i j (by rw [List.length_map]; omega) (by rw [List.length_map]; exact hlt) (by omega)
      rw [List.getElem_map, List.getElem_map, hi2, hp] at this
      exact beq_eq_false_iff_ne.mpr this
    obtain ⟨m', hm', e'⟩ := turn17 (zs (its17.take j) (z0 w.params)) j (404 + j) v t hi Z.1 hsz hab w os q F1 F2 B
    refine ⟨m + m', by omega, ?_⟩
    have hz := zs_snoc (its17.take j) (v, t) (z0 w.params)
    rw [show its17.take j ++ [(v, t)] = its17.take (j + 1) by rw [List.take_add_one, hi]; rfl] at hz
    rw [sg_comp e, e', hz]
    rfl
theorem works19 (X8 : Obj) (j tk : Nat) (w : World) (os : OsState) (q : Pos) (F1 F2 : Frame) (B : List Frame) : Works w cU19 q F1 F2 B 207 (fun X => L19 X8 X j tk w os) :=
  ⟨fun X => by kernel_rfl, fun X f => by kernel_rfl, fun X => by kernel_rfl, fun b p k => by kernel_rfl, fun p f k => by kernel_rfl, fun t k => by kernel_rfl⟩
theorem again19 (S : SharedT) (w : World) (q : Pos) (F1 F2 : Frame) (B : List Frame) : SG w 1 S ⟨again cU19, cU19, q, F1 :: F2 :: B⟩ = some (S, ⟨denote treeTable cU19, cU19, q, F1 :: F2 :: B⟩) := by
  unfold SG segGoT
  rw [endAt_two, show stepOk 11 ann0 ⟨again cU19, cU19, q, F1 :: F2 :: B⟩ = true by kernel_rfl]
  obtain ⟨T, N, life, gens, drawn, toks, os⟩ := S
  rfl
theorem turn19 (X8 : Obj) (z : Array (Int × Value) × Nat × SetTable) (j tk : Nat) (v : Int) (t : Nat) (h : its19[j]? = some (v, t)) (ok : SetOk z.1 z.2.2) (hsz : z.1.size < 4000) (hab : ∀ e ∈ z.1.toList, (e.1 == v) = false) (w : World) (os : OsState) (q : Pos) (F1 F2 : Frame) (B : List Frame) :
    ∃ m, m ≤ 24 ∧ SG w m (L19 X8 (zO z) j tk w os) ⟨denote treeTable cU19, cU19, q, F1 :: F2 :: B⟩ = some (L19 X8 (zO (addP z v (.int v t))) (j + 1) (tk + 1) w os, ⟨denote treeTable cU19, cU19, q, F1 :: F2 :: B⟩) := by
  obtain ⟨es, n, tb⟩ := z
  obtain ⟨N, e⟩ := loop_tree 207 208
  obtain ⟨m, hm, hC⟩ := add_run (works19 X8 (j + 1) (tk + 1) w os q F1 F2 B) (n := n) (tk := t) ok hsz hab (K := fun _ => again cU19) (H := .raise) (gd := id) (lv := id)
  refine ⟨10 + (5 + (m + 1)), by omega, ?_⟩
  refine Eq.trans (congrArg (fun c => SG w _ _ ⟨c, cU19, q, F1 :: F2 :: B⟩) e) ?_
  have hA := SA19_of h X8 (zO (es, n, tb)) w os tk (fun r => (match r with
    | some x => holding [x] (setAdd 207 x) >>= fun _ => again cU19
    | none => N)) .raise id id q F1 F2 B
  have hB := SB19_of h X8 (zO (es, n, tb)) os (j + 1) tk (fun h => setAddHashed 207 (.int v t) h >>= fun _ => again cU19) .raise id id q F1 F2 B w
  rw [Sem.bind_eq_wrap', sg_comp hA]
  dsimp only
  rw [setAdd_int, bind_assoc, Sem.bind_eq_wrap', sg_comp hB, Sem.bind_eq_wrap', sg_comp hC]
  exact again19 _ w q F1 F2 B
theorem nodup19 : (its19.map (·.1)).Nodup := by decide +kernel
theorem loop19 (X8 : Obj) (w : World) (os : OsState) (q : Pos) (F1 F2 : Frame) (B : List Frame) : ∀ j, j ≤ 97 → ∃ m, m ≤ 24 * j ∧
    SG w m (L19 X8 (zO (z0 w.params)) 0 529 w os) ⟨denote treeTable cU19, cU19, q, F1 :: F2 :: B⟩ = some (L19 X8 (zO (zs (its19.take j) (z0 w.params))) j (529 + j) w os, ⟨denote treeTable cU19, cU19, q, F1 :: F2 :: B⟩)
  | 0, _ => ⟨0, Nat.le_refl _, by unfold zs; rfl⟩
  | j + 1, hj => by
    obtain ⟨m, hm, e⟩ := loop19 X8 w os q F1 F2 B j (by omega)
    have hl : its19.length = 97 := rfl
    have hlt : j < its19.length := by omega
    have hi : its19[j]? = some its19[j] := List.getElem?_eq_getElem hlt
    generalize hp : its19[j] = p at hi
    obtain ⟨v, t⟩ := p
    have Z := zs_ok (its19.take j) (z0 w.params) (z0_ok _)
    have hperm : (zs (its19.take j) (z0 w.params)).1.toList.Perm ((its19.take j).map fun p => (p.1, Value.int p.1 p.2)).reverse := by
      have := Z.2
      rwa [show (z0 w.params).1.toList = [] from rfl, List.append_nil] at this
    have hsz : (zs (its19.take j) (z0 w.params)).1.size < 4000 := by
      rw [perm_size hperm, List.length_reverse, List.length_map, List.length_take]; omega
    have hab : ∀ e ∈ (zs (its19.take j) (z0 w.params)).1.toList, (e.1 == v) = false := by
      intro e he
      have he' := hperm.mem_iff.mp he
      rw [List.mem_reverse, List.mem_map] at he'
      obtain ⟨p, hpm, rfl⟩ := he'
      obtain ⟨i, hi1, hi2⟩ := List.mem_take_iff_getElem.mp hpm
      have nd := nodup19
      rw [List.nodup_iff_pairwise_ne, List.pairwise_iff_getElem] at nd
      have := nd i j (by rw [List.length_map]; omega) (by rw [List.length_map]; exact hlt) (by omega)
      rw [List.getElem_map, List.getElem_map, hi2, hp] at this
      exact beq_eq_false_iff_ne.mpr this
    obtain ⟨m', hm', e'⟩ := turn19 X8 (zs (its19.take j) (z0 w.params)) j (529 + j) v t hi Z.1 hsz hab w os q F1 F2 B
    refine ⟨m + m', by omega, ?_⟩
    have hz := zs_snoc (its19.take j) (v, t) (z0 w.params)
    rw [show its19.take j ++ [(v, t)] = its19.take (j + 1) by rw [List.take_add_one, hi]; rfl] at hz
    rw [sg_comp e, e', hz]
    rfl
abbrev D := PyData
inductive Val where
  | d (x : D)
  | ref (i : Nat)
inductive M where
  | list (l : List D)
  | acc (l : List D) (k : Int)
  | lock
abbrev Sto := List M
inductive Ent where
  | lo (v : Option Val)
  | ce (v : Option Val)
  | gl
abbrev Loc := List (Str × Ent)
def Ent.val : Ent → Option Val
  | .lo v => v
  | .ce v => v
  | .gl => none
def Ent.may : Ent → Bool
  | .gl => false
  | _ => true
def Ent.put (v : Val) : Ent → Ent
  | .lo _ => .lo (some v)
  | .ce _ => .ce (some v)
  | .gl => .gl
def getL (r : Loc) (x : Str) : Option Val := (r.lookup x).bind Ent.val
def canSet (r : Loc) (x : Str) : Bool := ((r.lookup x).map Ent.may).getD false
structure Ho where
  a : Addr
  dx : Option Addr
abbrev Gh := List Ho
def Ho.all (o : Ho) : List Addr := o.a :: o.dx.toList
def gad (G : Gh) : List Addr := G.flatMap Ho.all
def M.open? : M → Bool
  | .lock => false
  | _ => true
def mad (o : Ho) (m : M) : List Addr := if m.open? = true then o.all else []
def W (G : Gh) (S : Sto) : List Addr := (List.zipWith mad G S).flatten
inductive All2 {α β : Type} (R : α → β → Prop) : List α → List β → Prop
  | nil : All2 R [] []
  | cons {a : α} {b : β} {l : List α} {m : List β} : R a b → All2 R l m → All2 R (a :: l) (b :: m)
section
variable {α β : Type} {R : α → β → Prop} {l l' : List α} {m m' : List β}
theorem All2.imp {R' : α → β → Prop} (k : ∀ a b, R a b → R' a b) (h : All2 R l m) : All2 R' l m := by
  induction h with
  | nil => exact .nil
  | cons x _ ih => exact .cons (k _ _ x) ih
theorem All2.length (h : All2 R l m) : l.length = m.length := by
  induction h with
  | nil => rfl
  | cons _ _ ih => exact congrArg Nat.succ ih
theorem All2.iff : All2 R l m ↔ l.length = m.length ∧ ∀ (i : Nat) (a : α) (b : β), l[i]? = some a → m[i]? = some b → R a b := by
  refine ⟨fun h => ⟨h.length, ?_⟩, fun h => ?_⟩
  · induction h with
    | nil => exact fun i a b e _ => nomatch e
    | cons x _ ih =>
      intro i a b e e'
      cases i with
      | zero => cases e; cases e'; exact x
      | succ i => exact ih i a b e e'
  · induction l generalizing m with
    | nil => cases m with
      | nil => exact .nil
      | cons _ _ => exact nomatch h.1
    | cons a l ih => cases m with
      | nil => exact nomatch h.1
      | cons b m => exact .cons (h.2 0 a b rfl rfl) (ih ⟨Nat.succ.inj h.1, fun i a b e e' => h.2 (i + 1) a b e e'⟩)
theorem get_len {γ : Type} {l : List α} {m : List γ} (h : l.length = m.length) {i : Nat} {b : γ} (e : m[i]? = some b) : ∃ a, l[i]? = some a :=
  ⟨_, List.getElem?_eq_getElem (h ▸ (List.getElem?_eq_some_iff.mp e).1)⟩
theorem All2.get (h : All2 R l m) {i : Nat} {b : β} (e : m[i]? = some b) : ∃ a, l[i]? = some a ∧ R a b :=
  let ⟨a, e'⟩ := get_len h.length e
  ⟨a, e', (All2.iff.mp h).2 i a b e' e⟩
theorem All2.at_ (h : All2 R l m) {i : Nat} {a : α} {b : β} (e : m[i]? = some b) (e' : l[i]? = some a) : R a b := (All2.iff.mp h).2 i a b e' e
theorem All2.get' (h : All2 R l m) {i : Nat} {a : α} (e : l[i]? = some a) : ∃ b, m[i]? = some b ∧ R a b :=
  let ⟨b, e'⟩ := get_len h.length.symm e
  ⟨b, e', (All2.iff.mp h).2 i a b e e'⟩
theorem All2.append (x : All2 R l m) (y : All2 R l' m') : All2 R (l ++ l') (m ++ m') := by
  induction x with
  | nil => exact y
  | cons a _ ih => exact .cons a ih
theorem All2.take (x : All2 R l m) : ∀ n, All2 R (l.take n) (m.take n) := by
  induction x with
  | nil => intro n; rw [List.take_nil, List.take_nil]; exact .nil
  | cons a _ ih => intro n; cases n with
    | zero => exact .nil
    | succ n => exact .cons a (ih n)
theorem All2.drop (x : All2 R l m) : ∀ n, All2 R (l.drop n) (m.drop n) := by
  induction x with
  | nil => intro n; rw [List.drop_nil, List.drop_nil]; exact .nil
  | cons a h ih => intro n; cases n with
    | zero => exact .cons a h
    | succ n => exact ih n
theorem All2.set (x : All2 R l m) {i : Nat} {b : β} (k : ∀ a, l[i]? = some a → R a b) : All2 R l (m.set i b) := by
  refine All2.iff.mpr ⟨by rw [List.length_set]; exact x.length, fun j a b' e e' => ?_⟩
  by_cases hj : j = i
  · subst hj
    rw [List.getElem?_set_self (by rw [← x.length]; exact (List.getElem?_eq_some_iff.mp e).1)] at e'
    cases e'; exact k a e
  · rw [List.getElem?_set_ne (Ne.symm hj)] at e'; exact x.at_ e' e
theorem All2.set2 (x : All2 R l m) {i : Nat} {a : α} {b : β} (k : R a b) : All2 R (l.set i a) (m.set i b) := by
  refine All2.iff.mpr ⟨by rw [List.length_set, List.length_set]; exact x.length, fun j a' b' e e' => ?_⟩
  by_cases hj : j = i
  · subst hj
    have h1 := (List.getElem?_eq_some_iff.mp e).1
    have h2 := (List.getElem?_eq_some_iff.mp e').1
    rw [List.length_set] at h1 h2
    rw [List.getElem?_set_self h1] at e
    rw [List.getElem?_set_self h2] at e'
    cases e; cases e'; exact k
  · rw [List.getElem?_set_ne (Ne.symm hj)] at e e'; exact x.at_ e' e
theorem All2.inv (x : All2 R l m) : match (motive := List β → Prop) m with
    | [] => l = []
    | b :: m => ∃ a l', l = a :: l' ∧ R a b ∧ All2 R l' m := by
  cases x with
  | nil => rfl
  | cons h t => exact ⟨_, _, rfl, h, t⟩
theorem All2.nil_ (x : All2 R l []) : l = [] := x.inv
theorem All2.cons_ {b : β} {m : List β} (x : All2 R l (b :: m)) : ∃ a l', l = a :: l' ∧ R a b ∧ All2 R l' m := x.inv
theorem All2.one_ {b : β} (x : All2 R l [b]) : ∃ a, l = [a] ∧ R a b := let ⟨a, _, e, r, t⟩ := x.cons_; ⟨a, t.nil_ ▸ e, r⟩
theorem All2.map {γ : Type} {R' : α → γ → Prop} {f : β → γ} (h : ∀ a b, R a b → R' a (f b)) (x : All2 R l m) : All2 R' l (m.map f) := by
  induction x with
  | nil => exact .nil
  | cons a _ ih => exact .cons (h _ _ a) ih
end
def tabs : List Addr := [56, 63]
inductive V (wl : List Addr) (h : Heap) : Value → D → Prop
  | none : V wl h .none .none
  | bool (b : Bool) : V wl h (.bool b) (.bool b)
  | int (i : Int) (t : Tok) : V wl h (.int i t) (.int i)
  | str (s : Str) (t : Tok) : V wl h (.str s t) (.str s)
  | tup {a : Addr} {vs : List Value} {l : List D} : a ∉ wl → a ∉ tabs → h.IsTuple a vs.toArray → All2 (V wl h) vs l → V wl h (.ref a) (.tuple l)
  | lst {a : Addr} {vs : List Value} {l : List D} : a ∉ wl → a ∉ tabs → h.IsList a vs.toArray → All2 (V wl h) vs l → V wl h (.ref a) (.list l)
abbrev Vs (wl : List Addr) (h : Heap) : List Value → List D → Prop := All2 (V wl h)
section
variable {wl : List Addr} {h : Heap} {u : Value} {d : D}
theorem V.inv (x : V wl h u d) : match (motive := D → Prop) d with
    | .none => u = .none
    | .bool b => u = .bool b
    | .int i => ∃ t, u = .int i t
    | .str s => ∃ t, u = .str s t
    | .tuple l => ∃ a vs, u = .ref a ∧ a ∉ wl ∧ a ∉ tabs ∧ h.IsTuple a vs.toArray ∧ Vs wl h vs l
    | .list l => ∃ a vs, u = .ref a ∧ a ∉ wl ∧ a ∉ tabs ∧ h.IsList a vs.toArray ∧ Vs wl h vs l
    | _ => False := by
  cases x with
  | none => rfl
  | bool _ => rfl
  | int _ t => exact ⟨t, rfl⟩
  | str _ t => exact ⟨t, rfl⟩
  | tup a b c e => exact ⟨_, _, rfl, a, b, c, e⟩
  | lst a b c e => exact ⟨_, _, rfl, a, b, c, e⟩
theorem V.int_ {i : Int} (x : V wl h u (.int i)) : ∃ t, u = .int i t := x.inv
theorem V.str_ {i : Str} (x : V wl h u (.str i)) : ∃ t, u = .str i t := x.inv
theorem V.bool_ {i : Bool} (x : V wl h u (.bool i)) : u = .bool i := x.inv
theorem V.none_ (x : V wl h u .none) : u = .none := x.inv
theorem V.lst_ {l : List D} (x : V wl h u (.list l)) : ∃ a vs, u = .ref a ∧ a ∉ wl ∧ a ∉ tabs ∧ h.IsList a vs.toArray ∧ Vs wl h vs l := x.inv
theorem V.tup_ {l : List D} (x : V wl h u (.tuple l)) : ∃ a vs, u = .ref a ∧ a ∉ wl ∧ a ∉ tabs ∧ h.IsTuple a vs.toArray ∧ Vs wl h vs l := x.inv
end
def VV (wl : List Addr) (G : Gh) (h : Heap) (v : Value) : Val → Prop
  | .d x => V wl h v x
  | .ref i => ∃ o, G[i]? = some o ∧ v = .ref o.a
def Eff (W : List Addr) (h h' : Heap) : Prop := ∀ a o, a ∉ W → a ∉ tabs → h.get? a = some o → h'.get? a = some o
def New (h : Heap) (W W' : List Addr) : Prop := ∀ a ∈ W', a ∈ W ∨ h.get? a = none
theorem New.refl (h : Heap) (W : List Addr) : New h W W := fun _ m => .inl m
def IsL (h : Heap) (a : Addr) (vs : Array Value) : Prop := ∃ n, h.get? a = some { cls := .type "list", dict := none, data := .seq vs n, slots := #[] }
theorem IsL.il {h : Heap} {a : Addr} {vs : Array Value} (x : IsL h a vs) : h.IsList a vs := let ⟨n, e⟩ := x; ⟨_, e, rfl, n, rfl⟩
theorem IsL.plain {h : Heap} {a : Addr} {vs : Array Value} (x : IsL h a vs) : h.PlainList a vs := x
theorem isL_of {h : Heap} {a : Addr} {vs : Array Value} (x : h.PlainList a vs) : IsL h a vs := x
theorem isTuple_no {h : Heap} {a : Addr} {vs : Array Value} (i : h.IsTuple a vs) (n : h.get? a = none) : False := by
  obtain ⟨_, e, _⟩ := i; rw [n] at e; cases e
theorem isList_no {h : Heap} {a : Addr} {vs : Array Value} (i : h.IsList a vs) (n : h.get? a = none) : False := by
  obtain ⟨_, e, _⟩ := i; rw [n] at e; cases e
theorem V.step {wl wl' : List Addr} {h h' : Heap} (x : ∀ a o, a ∉ wl → a ∉ tabs → h.get? a = some o → h'.get? a = some o) (n : New h wl wl') {v : Value} {d : D} (y : V wl h v d) : V wl' h' v d := by
  refine V.rec (motive_1 := fun v d _ => V wl' h' v d) (motive_2 := fun v d _ => Vs wl' h' v d) .none .bool .int .str (fun na nt it _ ih => ?_) (fun na nt it _ ih => ?_) .nil (fun _ _ a b => .cons a b) y
  · exact .tup (fun m => (n _ m).elim na fun z => isTuple_no it z) nt (let ⟨o, e, r⟩ := it; ⟨o, x _ o na nt e, r⟩) ih
  · exact .lst (fun m => (n _ m).elim na fun z => isList_no it z) nt (let ⟨o, e, r⟩ := it; ⟨o, x _ o na nt e, r⟩) ih
theorem V.reads {wl : List Addr} {h : Heap} {v : Value} {d : D} (y : V wl h v d) : ∃ as, Reads h v d as := by
  refine V.rec (motive_1 := fun v d _ => ∃ as, Reads h v d as) (motive_2 := fun v d _ => ∃ as, ReadsAll h v d as) ⟨_, .none⟩ (fun b => ⟨_, .bool b⟩) (fun i t => ⟨_, .int i t⟩) (fun s t => ⟨_, .str s t⟩) (fun _ _ it _ ih => ?_) (fun _ _ it _ ih => ?_) ⟨_, .nil⟩ (fun _ _ a b => ?_) y
  · exact let ⟨o, e, c, n, q⟩ := it; let ⟨as, r⟩ := ih; ⟨_, .tuple e c q r⟩
  · exact let ⟨o, e, c, n, q⟩ := it; let ⟨as, r⟩ := ih; ⟨_, .list e c q r⟩
  · exact let ⟨_, r⟩ := a; let ⟨_, q⟩ := b; ⟨_, .cons r q⟩
def zK (P : Params) : Frag := Kx (zO (zs its17 (z0 P))) (zO (zs its19 (z0 P))) P
structure Cx where
  w : World
  h₀ : Heap
  os : OsState
  K : (zK w.params).In h₀
  lim : h₀.NoLimit
  t56 : h₀.get? 56 = some (o2x56 w.params)
  t63 : h₀.get? 63 = some (o2x63 w.params)
def accObj (dx : Addr) (vs : List Value) (n : Nat) : Obj := ⟨.ref 94, some dx, .seq vs.toArray n, #[]⟩
def DOk (k : Int) (o : Obj) : Prop := ∃ es ep tok, o.data = .dict es ep ∧ StrKeys es ∧ UniqKeys es ∧ ∀ name, nsFind es name = if name = Str.ofString "_initial_size" then some (.int k tok) else none
abbrev DO (k : Int) := { o : Obj // DOk k o }
def accDict (P : Params) (k : Int) (t : DO k) (t' : Unit) : Obj := t.val
def Sat (c : Cx) (wl : List Addr) (h : Heap) (o : Ho) : M → Prop
  | .list l => ∃ vs, IsL h o.a vs.toArray ∧ Vs wl h vs l
  | .acc l k => ∃ dx vs n t t', o.dx = some dx ∧ h.get? o.a = some (accObj dx vs n) ∧ h.get? dx = some (accDict c.w.params k t t') ∧ Vs wl h vs l
  | .lock => True
def TabOk (h : Heap) : Prop := ∀ P ∈ tabs, ∃ ps, h.get? P = some { cls := .none, data := .fields ps } ∧ TriplesOk ps.toList
structure OldT (h₀ h : Heap) : Prop where
  k : OldK h₀ h
  base : ∀ P ∈ tabs, ∃ o, h₀.get? P = some o ∧ o = { cls := .none, data := .fields #[] }
  tab : TabOk h
theorem OldT.there {h₀ h : Heap} (x : OldT h₀ h) (b : Addr) (o : Obj) (e : h₀.get? b = some o) : ∃ o', h.get? b = some o' := x.k.there b o e
theorem oldK_step {h₀ h h' : Heap} (K : OldT h₀ h) (hk : ∀ b o, h₀.get? b ≠ none → h.get? b = some o → h'.get? b = some o) : OldT h₀ h' := by
  have ne : ∀ {b o}, h₀.get? b = some o → h₀.get? b ≠ none := fun e n => by rw [n] at e; cases e
  refine ⟨⟨fun b o e => ?_, fun b o e => let ⟨o', ho'⟩ := K.k.there b o e; ⟨o', hk b o' (ne e) ho'⟩⟩, K.base, fun P m => let ⟨ps, e, t⟩ := K.tab P m; let ⟨o, e0, _⟩ := K.base P m; ⟨ps, hk _ _ (ne e0) e, t⟩⟩
  rcases K.k.old b o e with x | ⟨t, hc, vs, more, hv, x⟩ | ⟨rfl, hc, ⟨o', es, n, ho', r⟩, z⟩
  · exact .inl (hk _ _ (ne e) x)
  · exact .inr (.inl ⟨t, hc, vs, more, hv, hk _ _ (ne e) x⟩)
  · exact .inr (.inr ⟨rfl, hc, ⟨o', es, n, hk _ _ (ne e) ho', r⟩, fun key => by rw [OldK.staticOf_congr ((hk _ _ (ne e) ho').trans ho'.symm) key]; exact z key⟩)
structure Good (c : Cx) (wl : List Addr) (G : Gh) (S : Sto) (s : Shared) : Prop where
  old : OldT c.h₀ s.heap
  kin : (zK c.w.params).In s.heap
  new : ∀ a ∈ wl, c.h₀.get? a = none ∧ a ∉ tabs
  live : ∀ a ∈ wl, ∃ o, s.heap.get? a = some o
  sat : All2 (Sat c wl s.heap) G S
  own : ∀ a ∈ gad G, a ∈ wl
  nd : (gad G).Nodup
  bare : AllBare s.gens
  os : s.os = c.os
structure St (c : Cx) (S : Sto) where
  wl : List Addr
  G : Gh
  s : Shared
  good : Good c wl G S s
structure Room (n : Nat) (A : Around) : Prop where
  hd : A.handled = none
  depth : A.depth + n ≤ 900
  units : A.units + 16 * n ≤ 9800
theorem Room.less {n m : Nat} {A : Around} (r : Room n A) (h : m ≤ n) : Room m A := ⟨r.hd, Nat.le_trans (Nat.add_le_add_left h _) r.depth, Nat.le_trans (Nat.add_le_add_left (Nat.mul_le_mul_left _ h) _) r.units⟩
theorem Room.in1 {n : Nat} {A : Around} (r : Room (n + 1) A) : Room n A.in1 := ⟨r.hd, by have := r.depth; show A.depth + n ≤ 900; omega, by have := r.units; show A.units + 1 + 16 * n ≤ 9800; omega⟩
theorem Room.deeper {n : Nat} {A : Around} {env : Env} (r : Room (n + 1) A) : Room n (A.deeper env) := ⟨r.hd, by have := r.depth; show A.depth + 1 + n ≤ 900; omega, by have := r.units; show A.units + 3 + 16 * n ≤ 9800; omega⟩
theorem Room.limit {n : Nat} {A : Around} (r : Room n A) : A.depth < recursionLimit := by have := r.depth; show A.depth < 1000; omega
theorem Room.line {n : Nat} {A : Around} (r : Room n A) : A.units < cLine := by have := r.units; show A.units < 9900; omega
abbrev noE : Value → Shared → Prop := fun _ _ => False
theorem big_off {a : Addr} (hb : 277 < a) (m : a ∈ tabs) : False := by
  simp only [tabs, List.mem_cons, List.not_mem_nil, or_false] at m
  rcases m with rfl | rfl <;> exact absurd hb (by decide)
theorem W_iff {G : Gh} {S : Sto} {a : Addr} : a ∈ W G S ↔ ∃ (i : Nat) (o : Ho) (m : M), G[i]? = some o ∧ S[i]? = some m ∧ m.open? = true ∧ a ∈ o.all := by
  have key : ∀ {o : Ho} {m : M}, a ∈ mad o m ↔ m.open? = true ∧ a ∈ o.all := by
    intro o m; unfold mad; split <;> simp_all
  unfold W
  rw [List.mem_flatten]
  constructor
  · rintro ⟨l, hl, h3⟩
    obtain ⟨i, hi⟩ := List.mem_iff_getElem?.mp hl
    obtain ⟨o, m, h1, h2, rfl⟩ := List.getElem?_zipWith_eq_some.mp hi
    exact ⟨i, o, m, h1, h2, key.mp h3⟩
  · rintro ⟨i, o, m, h1, h2, h3⟩
    exact ⟨_, List.mem_iff_getElem?.mpr ⟨i, List.getElem?_zipWith_eq_some.mpr ⟨o, m, h1, h2, rfl⟩⟩, key.mpr h3⟩
theorem gad_of {G : Gh} {i : Nat} {o : Ho} {a : Addr} (e : G[i]? = some o) (m : a ∈ o.all) : a ∈ gad G := List.mem_flatMap.mpr ⟨o, List.mem_of_getElem? e, m⟩
theorem W_sub {G : Gh} {S : Sto} {a : Addr} (h : a ∈ W G S) : a ∈ gad G := let ⟨_, _, _, e, _, _, m⟩ := W_iff.mp h; gad_of e m
theorem gad_apart {G : Gh} {i j : Nat} {o o' : Ho} {a : Addr} (nd : (gad G).Nodup) (hij : i ≠ j) (h1 : G[i]? = some o) (h2 : G[j]? = some o') (h3 : a ∈ o.all) (h4 : a ∈ o'.all) : False := by
  have p := List.pairwise_iff_getElem.mp (List.pairwise_flatMap.mp nd).2
  obtain ⟨i1, rfl⟩ := List.getElem?_eq_some_iff.mp h1
  obtain ⟨j1, rfl⟩ := List.getElem?_eq_some_iff.mp h2
  rcases Nat.lt_or_gt_of_ne hij with q | q
  · exact p i j i1 j1 q a h3 a h4 rfl
  · exact p j i j1 i1 q a h4 a h3 rfl
theorem Sat.step {c : Cx} {wl wl' : List Addr} {h h' : Heap} {o : Ho} {m : M} (x : Sat c wl h o m) (k : ∀ a ∈ o.all, ∀ ob, h.get? a = some ob → h'.get? a = some ob) (vk : ∀ v d, V wl h v d → V wl' h' v d) : Sat c wl' h' o m := by
  cases m with
  | list l => exact let ⟨vs, ⟨n, e⟩, z⟩ := x; ⟨vs, ⟨n, k _ (.head _) _ e⟩, z.imp vk⟩
  | acc l n => exact let ⟨dx, vs, n, t, t', e, y, z, r⟩ := x; ⟨dx, vs, n, t, t', e, k _ (.head _) _ y, k _ (by unfold Ho.all; rw [e]; exact .tail _ (.head _)) _ z, r.imp vk⟩
  | lock => trivial
section
variable {c : Cx} {wl : List Addr} {G : Gh} {S : Sto} {s : Shared}
theorem Good.big (g : Good c wl G S s) : 277 < s.heap.objs.size := by
  have h : (zK c.w.params).lookup 277 = some (o31x277 c.w.params) := by kernel_rfl
  exact Heap.lt_size (g.kin 277 _ h)
theorem Good.off (g : Good c wl G S s) {a : Addr} (m : a ∈ wl) : a ∉ tabs := (g.new a m).2
theorem Good.no (g : Good c wl G S s) {a : Addr} (m : a ∈ wl) (z : s.heap.get? a = none) : False := by
  obtain ⟨o, e⟩ := g.live a m; rw [z] at e; cases e
theorem Good.fresh (g : Good c wl G S s) {a : Addr} (h : s.heap.objs.size ≤ a) : s.heap.get? a = none ∧ c.h₀.get? a = none ∧ a ∉ tabs ∧ a ∉ wl := by
  have n := Heap.get?_none_of_le h
  refine ⟨n, ?_, fun m => big_off (Nat.lt_of_lt_of_le g.big h) m, fun m => g.no m n⟩
  cases e : c.h₀.get? a with
  | none => rfl
  | some o => obtain ⟨o', e'⟩ := g.old.there a o e; rw [n] at e'; cases e'
theorem Good.lim (g : Good c wl G S s) : s.heap.NoLimit := by
  have h : (zK c.w.params).lookup 2 = some (boot_o_2 c.w.params) := by kernel_rfl
  exact Heap.NoLimit.at c.lim fun o e => by
    have e2 : o = boot_o_2 c.w.params := Option.some.inj (e.symm.trans (c.K 2 _ h))
    rw [e2]; exact g.kin 2 _ h
theorem Good.wsub (g : Good c wl G S s) : ∀ a ∈ W G S, a ∈ wl := fun a m => g.own a (W_sub m)
theorem Good.change (g : Good c wl G S s) {X wl' : List Addr} {G' : Gh} {S' : Sto} {h' : Heap} {tk : Nat} (hs : ∀ b o, b ∉ X → s.heap.get? b = some o → h'.get? b = some o) (xw : ∀ b ∈ X, b ∈ wl) (nw : ∀ b ∈ wl', b ∈ wl ∨ s.heap.objs.size ≤ b) (lv : ∀ b ∈ wl', (b ∈ wl → b ∈ X) → ∃ o, h'.get? b = some o)
    (own : ∀ b ∈ gad G', b ∈ wl') (nd : (gad G').Nodup) (sat : (∀ v d, V wl s.heap v d → V wl' h' v d) → (∀ o m, (∀ a ∈ o.all, a ∉ X) → Sat c wl s.heap o m → Sat c wl' h' o m) → All2 (Sat c wl' h') G' S') : Good c wl' G' S' { s with heap := h', toks := tk } := by
  have old : ∀ b o, c.h₀.get? b ≠ none → s.heap.get? b = some o → h'.get? b = some o := fun b o hb e => hs b o (fun z => hb (g.new b (xw b z)).1) e
  have vk : ∀ v d, V wl s.heap v d → V wl' h' v d := fun v d x => x.step (fun a o n _ e => hs a o (fun z => n (xw a z)) e) fun a m => (nw a m).imp id Heap.get?_none_of_le
  refine ⟨oldK_step g.old old, fun b o e => old b o (by rw [c.K b o e]; exact Option.some_ne_none _) (g.kin b o e), fun a m => (nw a m).elim (g.new a) fun z => ⟨(g.fresh z).2.1, (g.fresh z).2.2.1⟩, fun a m => ?_, sat vk fun o m n x => x.step (fun a q ob => hs a ob (n a q)) vk, own, nd, g.bare, g.os⟩
  by_cases z : a ∈ wl → a ∈ X
  · exact lv a m z
  · obtain ⟨z1, z2⟩ := Classical.not_imp.mp z
    obtain ⟨o, e⟩ := g.live a z1
    exact ⟨o, hs a o z2 e⟩
end
section
variable {c : Cx} {S S' S'' : Sto}
def St.v (a : St c S) (u : Value) (d : D) : Prop := V a.wl a.s.heap u d
def St.vs (a : St c S) (us : List Value) (ds : List D) : Prop := Vs a.wl a.s.heap us ds
def St.vv (a : St c S) (u : Value) (d : Val) : Prop := VV a.wl a.G a.s.heap u d
def St.vvs (a : St c S) (us : List Value) (ds : List Val) : Prop := All2 a.vv us ds
structure To (X : List Addr) (a : St c S) (b : St c S') : Prop where
  xs : ∀ x ∈ X, x ∈ a.wl
  pre : a.G <+: b.G
  gn : New a.s.heap (gad a.G) (gad b.G)
  wn : New a.s.heap (W a.G S) (W b.G S')
  eff : Eff (X ++ W a.G S) a.s.heap b.s.heap
  new : New a.s.heap a.wl b.wl
  sub : ∀ x ∈ a.wl, x ∈ b.wl
variable {X Y : List Addr} {a : St c S} {b : St c S'} {d : St c S''}
theorem To.xw (x : To X a b) : ∀ y ∈ X ++ W a.G S, y ∈ a.wl := fun y m => (List.mem_append.mp m).elim (x.xs y) (a.good.wsub y)
theorem To.back (x : To X a b) {y : Addr} (t : y ∉ tabs) (n : b.s.heap.get? y = none) : a.s.heap.get? y = none := by
  cases e : a.s.heap.get? y with
  | none => rfl
  | some o =>
    by_cases m : y ∈ X ++ W a.G S
    · exact (b.good.no (x.sub y (x.xw y m)) n).elim
    · rw [x.eff y o m t e] at n; cases n
theorem no_some {h : Heap} {y : Addr} {o : Obj} {P : Prop} (e : h.get? y = some o) (n : h.get? y = none) : P := by rw [n] at e; cases e
theorem To.after (x : To [] a b) (y : To X b d) (hX : ∀ z ∈ X, z ∈ Y ∨ a.s.heap.get? z = none) (hY : ∀ z ∈ Y, z ∈ a.wl) : To Y a d :=
  ⟨hY, x.pre.trans y.pre, fun z m => (y.gn z m).elim (x.gn z) fun q => .inr (x.back (d.good.off (d.good.own z m)) q), fun z m => (y.wn z m).elim (x.wn z) fun q => .inr (x.back (d.good.off (d.good.wsub z m)) q),
   fun z o n t e => y.eff z o (fun m => (List.mem_append.mp m).elim (fun q => (hX z q).elim (fun w => n (List.mem_append_left _ w)) (no_some e)) fun q => (x.wn z q).elim (fun w => n (List.mem_append_right _ w)) (no_some e)) t (x.eff z o (fun m => n (List.mem_append_right _ m)) t e),
   fun z m => (y.new z m).elim (x.new z) fun q => .inr (x.back (d.good.off m) q), fun z m => y.sub z (x.sub z m)⟩
theorem To.mono (x : To X a b) (k : ∀ z ∈ X, z ∈ Y) (ys : ∀ z ∈ Y, z ∈ a.wl) : To Y a b :=
  ⟨ys, x.pre, x.gn, x.wn, fun z o n t e => x.eff z o (fun m => (List.mem_append.mp m).elim (fun q => n (List.mem_append_left _ (k z q))) fun q => n (List.mem_append_right _ q)) t e, x.new, x.sub⟩
theorem To.wide (x : To [] a b) (ys : ∀ z ∈ X, z ∈ a.wl) : To X a b := x.mono (fun _ m => nomatch m) ys
theorem To.trans (x : To X a b) (y : To X b d) : To X a d :=
  ⟨x.xs, x.pre.trans y.pre, fun z m => (y.gn z m).elim (x.gn z) fun q => .inr (x.back (d.good.off (d.good.own z m)) q), fun z m => (y.wn z m).elim (x.wn z) fun q => .inr (x.back (d.good.off (d.good.wsub z m)) q),
   fun z o n t e => y.eff z o (fun m => (List.mem_append.mp m).elim (fun q => n (List.mem_append_left _ q)) fun q => (x.wn z q).elim (fun w => n (List.mem_append_right _ w)) (no_some e)) t (x.eff z o n t e),
   fun z m => (y.new z m).elim (x.new z) fun q => .inr (x.back (d.good.off m) q), fun z m => y.sub z (x.sub z m)⟩
theorem To.refl (a : St c S) : To [] a a := ⟨(fun _ m => nomatch m), List.prefix_refl _, New.refl _ _, New.refl _ _, fun _ _ _ _ e => e, New.refl _ _, fun _ m => m⟩
theorem To.v {u : Value} {x : D} (t : To X a b) (y : a.v u x) : b.v u x := V.step (fun z o n tb e => t.eff z o (fun m => n (t.xw z m)) tb e) t.new y
theorem To.vs {u : List Value} {x : List D} (t : To X a b) (y : a.vs u x) : b.vs u x := All2.imp (fun _ _ z => t.v z) y
theorem To.vv {u : Value} {x : Val} (t : To X a b) (y : a.vv u x) : b.vv u x := by
  cases x with
  | d x => exact t.v y
  | ref i =>
    obtain ⟨o, e, q⟩ := y
    obtain ⟨r, hr⟩ := t.pre
    exact ⟨o, by rw [← hr, List.getElem?_append_left (List.getElem?_eq_some_iff.mp e).1]; exact e, q⟩
theorem To.vvs {u : List Value} {x : List Val} (t : To X a b) (y : a.vvs u x) : b.vvs u x := All2.imp (fun _ _ z => t.vv z) y
theorem To.gnew (t : To X a b) {z : Addr} (n : z ∉ gad a.G) (m : z ∈ a.wl) : z ∉ gad b.G := fun y => (t.gn z y).elim n fun q => a.good.no m q
def St.adopt (a : St c S) (Z : List Addr) (h' : Heap) (tk : Nat) (k : ∀ b o, a.s.heap.get? b = some o → h'.get? b = some o) (hn : ∀ z ∈ Z, a.s.heap.objs.size ≤ z ∧ ∃ ob, h'.get? z = some ob) : St c S :=
  ⟨Z ++ a.wl, a.G, { a.s with heap := h', toks := tk }, a.good.change (X := []) (fun b o _ => k b o) (fun _ m => nomatch m) (fun b m => (List.mem_append.mp m).elim (fun q => .inr (hn b q).1) .inl)
    (fun b m q => (List.mem_append.mp m).elim (fun z => (hn b z).2) fun z => nomatch q z) (fun b m => List.mem_append_right _ (a.good.own b m)) a.good.nd fun _ sk => a.good.sat.imp fun o m => sk o m fun _ _ q => nomatch q⟩
theorem St.adopt_to (a : St c S) {Z : List Addr} {h' : Heap} {tk : Nat} {k hn} : To [] a (a.adopt Z h' tk k hn) :=
  ⟨(fun _ m => nomatch m), List.prefix_refl _, New.refl _ _, New.refl _ _, fun z o _ _ e => k z o e, fun z m => (List.mem_append.mp m).elim (fun q => .inr (Heap.get?_none_of_le (hn z q).1)) .inl, fun z m => List.mem_append_right _ m⟩
def St.keep (a : St c S) (h' : Heap) (tk : Nat) (k : ∀ b o, a.s.heap.get? b = some o → h'.get? b = some o) : St c S := a.adopt [] h' tk k fun _ m => nomatch m
theorem St.keep_to (a : St c S) {h' : Heap} {tk : Nat} {k} : To [] a (a.keep h' tk k) := a.adopt_to
def St.tok (a : St c S) (tk : Nat) : St c S := a.keep a.s.heap tk fun _ _ e => e
theorem St.tok_to (a : St c S) {tk : Nat} : To [] a (a.tok tk) := a.keep_to
def St.push (a : St c S) (o : Obj) (tk : Nat) : St c S := a.keep (a.s.heap.push o) tk fun _ _ e => Heap.get?_push_of_some _ e
theorem St.push_to (a : St c S) {o : Obj} {tk : Nat} : To [] a (a.push o tk) := a.keep_to
def St.mut (a : St c S) (X : List Addr) (h' : Heap) (tk : Nat) (m : ∀ z ∈ X, z ∈ a.wl) (n : ∀ z ∈ X, z ∉ gad a.G) (hs : ∀ b o, b ∉ X → a.s.heap.get? b = some o → h'.get? b = some o) (lv : ∀ z ∈ X, ∃ o, h'.get? z = some o) : St c S :=
  ⟨a.wl, a.G, { a.s with heap := h', toks := tk }, a.good.change hs m (fun b q => .inl q) (fun b q z => lv b (z q)) a.good.own a.good.nd fun _ sk => All2.iff.mpr ⟨a.good.sat.length, fun i o m e e' => sk o m (fun z q w => n z w (gad_of e q)) (a.good.sat.at_ e' e)⟩⟩
theorem St.mut_to (a : St c S) {X : List Addr} {h' : Heap} {tk : Nat} {m n hs lv} : To X a (a.mut X h' tk m n hs lv) :=
  ⟨m, List.prefix_refl _, New.refl _ _, New.refl _ _, fun z o q _ e => hs z o (fun w => q (List.mem_append_left _ w)) e, New.refl _ _, fun _ m => m⟩
def St.last (b : St c S) (Z : List Addr) (h' : Heap) (tk : Nat) (zw : ∀ z ∈ Z, z ∈ b.wl) (zg : ∀ z ∈ Z, z ∉ gad b.G) (hs : ∀ x o, x ∉ Z → b.s.heap.get? x = some o → h'.get? x = some o) : St c S :=
  ⟨b.wl.filter (fun x => !Z.contains x), b.G, { b.s with heap := h', toks := tk }, b.good.change hs zw (fun x q => .inl (List.mem_filter.mp q).1) (fun x q z => by
      have h := List.mem_filter.mp q
      exact absurd (z h.1) (by simpa using h.2)) (fun x m => List.mem_filter.mpr ⟨b.good.own x m, by simpa using fun z => zg x z m⟩) b.good.nd fun _ sk => All2.iff.mpr ⟨b.good.sat.length, fun i o m e e' => sk o m (fun z q w => zg z w (gad_of e q)) (b.good.sat.at_ e' e)⟩⟩
theorem mem_last {wl Z : List Addr} {x : Addr} : x ∈ wl.filter (fun x => !Z.contains x) ↔ x ∈ wl ∧ x ∉ Z := by simp [List.mem_filter]
theorem To.last (t : To X a b) {Z : List Addr} {h' : Heap} {tk : Nat} {zw zg} {hs : ∀ x o, x ∉ Z → b.s.heap.get? x = some o → h'.get? x = some o} (hZ : ∀ z ∈ Z, a.s.heap.get? z = none) : To X a (b.last Z h' tk zw zg hs) :=
  ⟨t.xs, t.pre, t.gn, t.wn, fun z o n tb e => hs z o (fun q => no_some e (hZ z q)) (t.eff z o n tb e), fun z m => t.new z (List.mem_filter.mp m).1, fun z m => mem_last.mpr ⟨t.sub z m, fun q => a.good.no m (hZ z q)⟩⟩
theorem St.last_v (b : St c S) {Z : List Addr} {h' : Heap} {tk : Nat} {zw zg} {hs : ∀ x o, x ∉ Z → b.s.heap.get? x = some o → h'.get? x = some o} {u : Value} {x : D} (y : b.v u x) : (b.last Z h' tk zw zg hs).v u x :=
  V.step (fun z o n _ e => hs z o (fun q => n (zw z q)) e) (fun z m => .inl (List.mem_filter.mp m).1) y
end
section
variable {c : Cx} {S S' : Sto} {X : List Addr} {a : St c S} {b : St c S'}
theorem get_one {α : Type} {l : List α} {i : Nat} {x y : α} (h : l[i]? = some x) (k : l[i]? = some y) : x = y := Option.some.inj (h.symm.trans k)
theorem W_set {G : Gh} {i : Nat} {m : M} {z : Addr} (h : z ∈ W G (S.set i m)) : z ∈ W G S ∨ ∃ o, G[i]? = some o ∧ z ∈ o.all ∧ m.open? = true := by
  obtain ⟨j, o, m', h1, h2, h3, h4⟩ := W_iff.mp h
  by_cases hij : j = i
  · subst hij
    have hl := (List.getElem?_eq_some_iff.mp h2).1
    rw [List.length_set] at hl
    rw [List.getElem?_set_self hl] at h2
    cases h2; exact .inr ⟨o, h1, h4, h3⟩
  · rw [List.getElem?_set_ne (Ne.symm hij)] at h2
    exact .inl (W_iff.mpr ⟨j, o, m', h1, h2, h3, h4⟩)
theorem W_lock {G : Gh} {i : Nat} {z : Addr} (h : z ∈ W G (S.set i .lock)) : z ∈ W G S := (W_set h).elim id fun ⟨_, _, _, k⟩ => nomatch k
theorem W_lock2 {G : Gh} {i : Nat} {z : Addr} {o : Ho} (h : z ∈ W G (S.set i .lock)) (e : G[i]? = some o) (m : z ∈ o.all) (nd : (gad G).Nodup) : False := by
  obtain ⟨j, o', m', h1, h2, h3, h4⟩ := W_iff.mp h
  by_cases hij : j = i
  · subst hij
    have hl := (List.getElem?_eq_some_iff.mp h2).1
    rw [List.length_set] at hl
    rw [List.getElem?_set_self hl] at h2
    cases h2; cases h3
  · exact gad_apart nd hij h1 e h4 m
def St.re (a : St c S) (i : Nat) (m : M) (k : ∀ o, a.G[i]? = some o → Sat c a.wl a.s.heap o m) : St c (S.set i m) :=
  ⟨a.wl, a.G, a.s, ⟨a.good.old, a.good.kin, a.good.new, a.good.live, a.good.sat.set k, a.good.own, a.good.nd, a.good.bare, a.good.os⟩⟩
def St.lock (a : St c S) (i : Nat) : St c (S.set i .lock) := a.re i .lock fun _ _ => trivial
theorem St.lock_to (a : St c S) {i : Nat} : To [] a (a.lock i) :=
  ⟨(fun _ m => nomatch m), List.prefix_refl _, New.refl _ _, fun z m => .inl (W_lock m), fun _ _ _ _ e => e, New.refl _ _, fun _ m => m⟩
theorem pre_get {G G' : Gh} (p : G <+: G') {i : Nat} {o : Ho} (e : G[i]? = some o) : G'[i]? = some o := by
  obtain ⟨r, rfl⟩ := p
  rw [List.getElem?_append_left (List.getElem?_eq_some_iff.mp e).1]; exact e
theorem St.unlock_to (a : St c S) {i : Nat} {m : M} (e : S[i]? = some m) (t : To X (a.lock i) b) (xg : ∀ z ∈ X, z ∉ gad a.G) : ∃ k, To X a (b.re i m k) := by
  obtain ⟨o, eo, sat⟩ := a.good.sat.get e
  have eo' : b.G[i]? = some o := pre_get t.pre eo
  have keep : ∀ z ∈ o.all, ∀ ob, a.s.heap.get? z = some ob → b.s.heap.get? z = some ob := fun z h ob hb => t.eff z ob (fun q => (List.mem_append.mp q).elim (fun w => xg z w (gad_of eo h)) fun w => W_lock2 w eo h a.good.nd) (a.good.off (a.good.own z (gad_of eo h))) hb
  have k : ∀ o', b.G[i]? = some o' → Sat c b.wl b.s.heap o' m := fun o' e' => by
    cases get_one eo' e'
    exact sat.step keep fun v d x => To.v (u := v) (x := d) t x
  refine ⟨k, t.xs, t.pre, t.gn, fun z h => ?_, fun z o n tb e => t.eff z o (fun q => n ((List.mem_append.mp q).elim (List.mem_append_left _) fun w => List.mem_append_right _ (W_lock w))) tb e, t.new, t.sub⟩
  rcases W_set h with q | ⟨o', h1, h2, h3⟩
  · exact (t.wn z q).imp W_lock id
  · cases get_one eo' h1
    exact .inl (W_iff.mpr ⟨i, o, m, eo, e, h3, h2⟩)
theorem W_snoc {G : Gh} {o : Ho} {m : M} {z : Addr} (h : z ∈ W (G ++ [o]) (S ++ [m])) (hl : G.length = S.length) : z ∈ W G S ∨ z ∈ o.all := by
  have : W (G ++ [o]) (S ++ [m]) = W G S ++ mad o m := by
    unfold W
    rw [List.zipWith_append hl, List.flatten_append]
    simp
  rw [this] at h
  refine (List.mem_append.mp h).imp id fun q => ?_
  unfold mad at q
  split at q
  · exact q
  · cases q
theorem gad_snoc {G : Gh} {o : Ho} : gad (G ++ [o]) = gad G ++ o.all := by simp [gad]
def St.grow (a : St c S) (o : Ho) (m : M) (h' : Heap) (tk : Nat) (k : ∀ b o, a.s.heap.get? b = some o → h'.get? b = some o) (hn : ∀ z ∈ o.all, a.s.heap.objs.size ≤ z ∧ ∃ ob, h'.get? z = some ob) (nd : o.all.Nodup) (sat : (∀ v d, V a.wl a.s.heap v d → V (o.all ++ a.wl) h' v d) → Sat c (o.all ++ a.wl) h' o m) : St c (S ++ [m]) :=
  ⟨o.all ++ a.wl, a.G ++ [o], { a.s with heap := h', toks := tk }, a.good.change (X := []) (fun b o _ => k b o) (fun _ m => nomatch m) (fun b m => (List.mem_append.mp m).elim (fun q => .inr (hn b q).1) .inl)
    (fun b m q => (List.mem_append.mp m).elim (fun z => (hn b z).2) fun z => nomatch q z) (fun b m => by
      rw [gad_snoc] at m
      exact (List.mem_append.mp m).elim (fun z => List.mem_append_right _ (a.good.own b z)) fun z => List.mem_append_left _ z) (by
      rw [gad_snoc]
      exact List.nodup_append.mpr ⟨a.good.nd, nd, fun z qa y qb e => (a.good.fresh (hn y qb).1).2.2.2 (e ▸ a.good.own z qa)⟩) fun vk sk => (a.good.sat.imp fun o m => sk o m fun _ _ q => nomatch q).append (.cons (sat vk) .nil)⟩
theorem St.grow_to (a : St c S) {o : Ho} {m : M} {h' : Heap} {tk : Nat} {k nd sat} {hn : ∀ z ∈ o.all, a.s.heap.objs.size ≤ z ∧ ∃ ob, h'.get? z = some ob} : To [] a (a.grow o m h' tk k hn nd sat) :=
  ⟨(fun _ m => nomatch m), ⟨_, rfl⟩, fun z q => by
    have q : z ∈ gad (a.G ++ [o]) := q
    rw [gad_snoc] at q
    exact (List.mem_append.mp q).elim .inl fun w => .inr (Heap.get?_none_of_le (hn z w).1), fun z q => (W_snoc q a.good.sat.length).elim .inl fun w => .inr (Heap.get?_none_of_le (hn z w).1),
   fun z o _ _ e => k z o e, fun z m => (List.mem_append.mp m).elim (fun q => .inr (Heap.get?_none_of_le (hn z q).1)) .inl, fun z m => List.mem_append_right _ m⟩
def St.write (a : St c S) (i : Nat) (m' : M) (o : Ho) (h' : Heap) (tk : Nat) (eo : a.G[i]? = some o) (hs : ∀ b ob, b ∉ o.all → a.s.heap.get? b = some ob → h'.get? b = some ob) (lv : ∀ z ∈ o.all, ∃ ob, h'.get? z = some ob) (sat : (∀ v d, V a.wl a.s.heap v d → V a.wl h' v d) → Sat c a.wl h' o m') : St c (S.set i m') :=
  ⟨a.wl, a.G, { a.s with heap := h', toks := tk }, a.good.change hs (fun b q => a.good.own b (gad_of eo q)) (fun b q => .inl q) (fun b q z => lv b (z q)) a.good.own a.good.nd fun vk sk => All2.iff.mpr ⟨by rw [List.length_set]; exact a.good.sat.length, fun j o2 m2 e e' => by
    by_cases hj : j = i
    · subst hj
      have hl := (List.getElem?_eq_some_iff.mp e').1
      rw [List.length_set] at hl
      rw [List.getElem?_set_self hl] at e'
      cases get_one eo e
      cases e'; exact sat vk
    · rw [List.getElem?_set_ne (Ne.symm hj)] at e'
      exact sk o2 m2 (fun z q w => gad_apart a.good.nd hj e eo q w) (a.good.sat.at_ e' e)⟩⟩
theorem St.write_to (a : St c S) {i : Nat} {m m' : M} {o : Ho} {h' : Heap} {tk : Nat} {eo : a.G[i]? = some o} {lv sat} {hs : ∀ b ob, b ∉ o.all → a.s.heap.get? b = some ob → h'.get? b = some ob} (em : S[i]? = some m) (mo : m.open? = true) : To [] a (a.write i m' o h' tk eo hs lv sat) := by
  have oW : ∀ z ∈ o.all, z ∈ W a.G S := fun z h => W_iff.mpr ⟨i, o, m, eo, em, mo, h⟩
  exact ⟨(fun _ m => nomatch m), List.prefix_refl _, New.refl _ _, fun z h => .inl ((W_set h).elim id fun ⟨o', e, q, _⟩ => oW z (get_one e eo ▸ q)), fun b ob q _ e => hs b ob (fun z => q (oW b z)) e, New.refl _ _, fun _ m => m⟩
def St.own (b : St c S') (z : Addr) (l : List D) (h1 : z ∈ b.wl) (h2 : z ∉ gad b.G) (h3 : ∃ vs, IsL b.s.heap z vs.toArray ∧ b.vs vs l) : St c (S' ++ [.list l]) :=
  ⟨b.wl, b.G ++ [⟨z, none⟩], b.s, ⟨b.good.old, b.good.kin, b.good.new, b.good.live, b.good.sat.append (All2.cons (R := Sat c b.wl b.s.heap) (a := (⟨z, none⟩ : Ho)) (b := M.list l) h3 .nil), fun y m => by
    rw [gad_snoc] at m
    exact (List.mem_append.mp m).elim (b.good.own y) fun q => by rw [List.mem_singleton.mp q]; exact h1, by
    rw [gad_snoc]
    exact List.nodup_append.mpr ⟨b.good.nd, (by simp [Ho.all]), fun y qa x qb e => h2 (by rw [e, List.mem_singleton.mp qb] at qa; exact qa)⟩, b.good.bare, b.good.os⟩⟩
theorem To.own (t : To X a b) {z : Addr} {l : List D} {h1 h2 h3} (hu : a.s.heap.get? z = none) : To X a (b.own z l h1 h2 h3) :=
  ⟨t.xs, t.pre.trans ⟨_, rfl⟩, fun y m => by
    have m : y ∈ gad (b.G ++ [⟨z, none⟩]) := m
    rw [gad_snoc] at m
    exact (List.mem_append.mp m).elim (t.gn y) fun q => .inr (by rw [List.mem_singleton.mp q]; exact hu), fun y m => (W_snoc m b.good.sat.length).elim (t.wn y) fun q => .inr (by rw [List.mem_singleton.mp q]; exact hu), t.eff, t.new, t.sub⟩
end
inductive EK where
  | lo
  | ce
  | gl
  deriving DecidableEq
abbrev En := Str → Option Val
def put (x : Str) (v : Val) (e : En) : En := fun y => if y == x then some v else e y
def emp : En := fun _ => none
def putN : List Str → List Val → En → En
  | x :: xs, v :: vs, e => putN xs vs (put x v e)
  | _, _, e => e
def isVa (ks : List (Str × EK)) (x : Str) : Bool := match ks.lookup x with
  | some .lo => !(x == "__debug__")
  | some .ce => !(x == "__debug__")
  | _ => false
def isG (ks : List (Str × EK)) (x : Str) : Bool := match ks.lookup x with
  | some .gl => !(x == "__debug__")
  | _ => false
def kindE : NameKind → EK
  | .local => .lo
  | .cell => .ce
  | .free => .ce
  | .globalImplicit => .gl
  | _ => .lo
def ksOf (sc : Scope) : List (Str × EK) := sc.names.map fun p => (p.1, kindE p.2)
inductive Fl where
  | next (e : En)
  | cont (e : En)
  | ret (v : Val)
def Val.dat : Val → Option D
  | .d x => some x
  | .ref _ => none
def dats : List Val → Option (List D)
  | [] => some []
  | .d x :: r => (dats r).map (x :: ·)
  | .ref _ :: _ => none
def new (m : M) (S : Sto) : Val × Sto := (.ref S.length, S ++ [m])
instance (a b : Int) : Decidable (IntMulOk a b) := by unfold IntMulOk; infer_instance
def big27 : Int := 2 ^ 27
def nm : Expr → Option Str
  | .Name x _ => some x
  | _ => none
def dI : D → Option Int
  | .int i => some i
  | _ => none
def dS : D → Option Str
  | .str x => some x
  | _ => none
def dL : D → Option (List D)
  | .list l => some l
  | _ => none
def dT : D → Option (List D)
  | .tuple l => some l
  | _ => none
def dB : D → Option Bool
  | .bool b => some b
  | _ => none
def dN : D → Option Unit
  | .none => some ()
  | _ => none
def Val.rf : Val → Option Nat
  | .ref i => some i
  | .d _ => none
def binI : Operator → Int → Int → Option Int
  | .Add, a, b => some (a + b)
  | .Sub, a, b => some (a - b)
  | .Mult, a, b => if IntMulOk a b then some (a * b) else none
  | .FloorDiv, a, b => if b = 0 ∨ Builtin.divisionGoesByPylong a b = true then none else some (a.fdiv b)
  | .Mod, a, b => if b = 0 then none else some (a.fmod b)
  | .Pow, a, n => if 0 ≤ n ∧ (Builtin.Int.intBits a : Int) * n ≤ big27 then some (a ^ n.toNat) else none
  | .LShift, a, n => if 0 ≤ n ∧ (Builtin.Int.intBits a : Int) + n ≤ big27 then some (a * 2 ^ n.toNat) else none
  | .RShift, a, n => if 0 ≤ n then some (a.fdiv (2 ^ n.toNat)) else none
  | .BitAnd, a, b => some (Builtin.bitAnd a b)
  | .BitOr, a, b => some (Builtin.bitOr a b)
  | _, _, _ => none
def isAdd : Operator → Bool
  | .Add => true
  | _ => false
def isMul : Operator → Bool
  | .Mult => true
  | _ => false
def binD (op : Operator) (a b : D) : Option D := match a with
  | .int i => dI b >>= fun j => (binI op i j).map .int
  | .str x => if isAdd op = true then dS b >>= fun y => if x.length + y.length ≤ sizeLine then some (.str (x ++ y)) else none else none
  | .list l => if isAdd op = true then dL b >>= fun m => if l.length + m.length ≤ sizeLine then some (.list (l ++ m)) else none else none
  | _ => none
def oneD : List D → Option D
  | [x] => some x
  | _ => none
def repV (op : Operator) (a b : Val) (S : Sto) : Option (Val × Sto) :=
  if isMul op = true then (a.dat >>= fun x => dL x >>= fun l => oneD l >>= fun y => b.dat >>= fun z => dI z >>= fun n => if 0 ≤ n ∧ n ≤ 64 then some (new (.list (List.replicate n.toNat y)) S) else none) else none
def binV (md : Bool) (op : Operator) (a b : Val) (S : Sto) : Option (Val × Sto) :=
  if md = true then repV op a b S else a.dat >>= fun x => b.dat >>= fun y => (binD op x y).map fun z => (.d z, S)
def augOk : Operator → Bool
  | .Add | .Mult | .LShift | .RShift | .BitAnd | .BitOr => true
  | _ => false
def M.ext (l : List D) : M → Option M
  | .list l0 => if l0.length + l.length ≤ sizeLine then some (.list (l0 ++ l)) else none
  | .acc l0 k => if l0.length + l.length ≤ sizeLine then some (.acc (l0 ++ l) k) else none
  | .lock => none
def augV (op : Operator) (a b : Val) (S : Sto) : Option (Val × Sto) := match a with
  | .ref i => if isAdd op = true then b.dat >>= fun d => dL d >>= fun l => S[i]? >>= fun m => (m.ext l).map fun m' => (.ref i, S.set i m') else none
  | .d x => dI x >>= fun i => b.dat >>= fun y => dI y >>= fun j => if augOk op = true then (binI op i j).map fun k => (.d (.int k), S) else none
def unD (op : UnaryOp) (a : D) : Option D := match op with
  | .USub => (dI a).map fun i => .int (-i)
  | .Invert => (dI a).map fun i => .int (Builtin.bitNot i)
  | .Not => (dB a).map fun b => .bool !b
  | .UAdd => none
def truthD : D → Option Bool
  | .bool b => some b
  | .int i => some (i != 0)
  | _ => none
def okEq (a b : D) : Bool := SeqAt.shaped a && SeqAt.shaped b
def allInt : List D → Option (List Int)
  | [] => some []
  | .int i :: r => (allInt r).map (i :: ·)
  | _ :: _ => none
def inD (a : D) : D → Option Bool
  | .list l => if okEq (.list l) a = true then some (l.any fun y => PyData.eqv y a) else none
  | .tuple l => if okEq (.tuple l) a = true then some (l.any fun y => PyData.eqv y a) else none
  | _ => none
def isD (x y : D) : Option Bool := match x with
  | .none => (dN y).map fun _ => true
  | .bool a => (dB y).map fun b => a == b
  | _ => none
def isV (a b : Val) : Option Bool := match a with
  | .ref i => b.rf >>= fun j => if i = j then some true else none
  | .d x => b.dat >>= isD x
def eqD (x y : D) : Option Bool := if okEq x y = true then some (PyData.eqv x y) else none
def datB (f : D → D → Option Bool) (a b : Val) : Option Bool := a.dat >>= fun x => b.dat >>= f x
def intB (f : Int → Int → Bool) (x y : D) : Option Bool := dI x >>= fun i => (dI y).map (f i)
def cmpV (op : CmpOp) (a b : Val) : Option Bool := match op with
  | .Eq => datB eqD a b
  | .NotEq => (datB eqD a b).map (!·)
  | .Lt => datB (intB fun a b => decide (a < b)) a b
  | .LtE => datB (intB fun a b => decide (a ≤ b)) a b
  | .Gt => datB (intB fun a b => decide (b < a)) a b
  | .GtE => datB (intB fun a b => decide (b ≤ a)) a b
  | .Is => isV a b
  | .IsNot => (isV a b).map (!·)
  | .In => datB inD a b
  | .NotIn => (datB inD a b).map (!·)
def itemD (l : List D) (i : Int) : Option Val := if 0 ≤ i ∧ i < 4096 then (l[i.toNat]?).map .d else none
def M.its : M → Option (List D)
  | .list l => some l
  | .acc l _ => some l
  | .lock => none
def seqD : D → Option (List D)
  | .list l => some l
  | .tuple l => some l
  | _ => none
def Val.its (S : Sto) : Val → Option (List D)
  | .d x => seqD x
  | .ref j => S[j]? >>= M.its
def getV (a i : Val) (S : Sto) : Option Val := i.dat >>= fun x => dI x >>= fun j => a.its S >>= fun l => itemD l j
def partD : D → Option (Option Int)
  | .none => some none
  | .int i => some (some i)
  | _ => none
def picks (n : Nat) (lo hi st : Option Int) : List Nat := sliceRange (sliceBounds lo hi st n).1 (sliceBounds lo hi st n).2.1 (sliceBounds lo hi st n).2.2
def sliceL {α : Type} (l : List α) (lo hi st : Option Int) : List α := (picks l.length lo hi st).filterMap (l[·]?)
def sliceV (a : Val) (lo hi st : D) (S : Sto) : Option Val := partD lo >>= fun lo => partD hi >>= fun hi => partD st >>= fun st => if st = some 0 then none else a.dat >>= fun x => dL x >>= fun l => if l.length ≤ sizeLine then some (.d (.list (sliceL l lo hi st))) else none
def con : Const → Option D
  | .none => some .none
  | .bool b => some (.bool b)
  | .int i => some (.int i)
  | .str s => some (.str s)
  | _ => none
def isStar : Expr → Bool
  | .Starred _ _ => true
  | _ => false
inductive Nms : List Expr → List Str → Prop
  | nil : Nms [] []
  | cons {x : Str} {p : Pos} {es : List Expr} {xs : List Str} : Nms es xs → Nms (.Name x p :: es) (x :: xs)
inductive Asg (ks : List (Str × EK)) : Expr → D → En → En → Prop
  | name {x : Str} {p : Pos} {d : D} {e : En} : isVa ks x = true → Asg ks (.Name x p) d e (put x (.d d) e)
  | tup {es : List Expr} {k : Nat} {p : Pos} {xs : List Str} {ds : List D} {e : En} : Nms es xs → xs.all (isVa ks) = true → xs.length = ds.length → Asg ks (.Tuple es k p) (.tuple ds) e (putN xs (ds.map .d) e)
def signs (s : Str) : List D := s.cps.toList.map fun c => .str ⟨#[c]⟩
def zipD (l m : List D) : List D := List.zipWith (fun a b => .tuple [a, b]) l m
def zip3D (l m q : List D) : List D := List.zipWith (fun a (p : D × D) => .tuple [a, p.1, p.2]) l (m.zip q)
def enumD : Nat → List D → List D
  | _, [] => []
  | n, a :: as => .tuple [.int n, a] :: enumD (n + 1) as
def rangeD (n : Int) : List D := (List.range n.toNat).map fun (i : Nat) => PyData.int (i : Int)
def isTupT : Expr → Bool
  | .Tuple _ _ _ => true
  | _ => false
def unlock : Option (Nat × M) → Sto → Option Sto
  | none, S => some S
  | some (i, m), S => match S[i]? with
    | some .lock => some (S.set i m)
    | _ => none
def freeE (cs : Scope) (e : En) : En := fun x => if cs.names.lookup x == some .free then e x else none
def compFree (cs : Scope) (ks : List (Str × EK)) : Bool := cs.names.all fun p => match p.2 with
  | .free => ks.lookup p.1 == some .ce
  | .local => true
  | .cell => true
  | .globalImplicit => true
  | _ => false
def tnames : Expr → List Str
  | .Name x _ => [x]
  | .Tuple es _ _ => es.filterMap nm
  | _ => []
def tgtOk (scope : Scope) (t : Expr) : Bool := (tnames t).all fun x => scope.names.lookup x == some .local || scope.names.lookup x == some .cell
def compOk (scope : Scope) (gens : List Comprehension) : Bool :=
  scope.kind == .function && decide ((scope.names.map (·.1)).Nodup) && gens.all (fun g => tgtOk scope g.target && g.is_async == 0) && decide (gens.length ≤ 2)
def kd (a : Val) (S : Sto) : Nat :=
  match a with
  | .ref i => (match S[i]? with
      | some (.list _) => 1
      | some (.acc _ _) => 2
      | _ => 0)
  | .d (.str _) => 3
  | _ => 0
def bareCall : Expr → Bool
  | .Call (.Name _ _) [] [] _ => true
  | _ => false
def isComp : Expr → Bool
  | .ListComp _ _ _ _ => true
  | .SetComp _ _ _ _ => true
  | .DictComp _ _ _ _ _ => true
  | _ => false
theorem bs {α β : Type} {x : Option α} {f : α → Option β} {y : β} (h : (x >>= f) = some y) : ∃ a, x = some a ∧ f a = some y := by
  cases x with
  | none => cases h
  | some a => exact ⟨a, rfl, h⟩
theorem ms {α β : Type} {x : Option α} {f : α → β} {y : β} (h : x.map f = some y) : ∃ a, x = some a ∧ f a = y := by
  cases x with
  | none => cases h
  | some a => exact ⟨a, rfl, Option.some.inj h⟩
theorem ite_some {α : Type} {c : Prop} [Decidable c] {x : Option α} {y : α} (h : (if c then x else none) = some y) : c ∧ x = some y := by
  by_cases k : c
  · rw [if_pos k] at h; exact ⟨k, h⟩
  · rw [if_neg k] at h; cases h
theorem etis {α : Type} {c : Prop} [Decidable c] {x : Option α} {y : α} (h : (if c then none else x) = some y) : ¬ c ∧ x = some y := by
  by_cases k : c
  · rw [if_pos k] at h; cases h
  · rw [if_neg k] at h; exact ⟨k, h⟩
def own (ks : List (Str × EK)) (env : Env) : List Addr := env.locals :: (env.cells.filter fun p => ks.lookup p.1 == some .ce).map (·.2)
def place (env : Env) (x : Str) : Addr := if env.kindOf x = some .local then env.locals else (env.cells.lookup x).getD 0
structure Fm (ks : List (Str × EK)) (env : Env) {c : Cx} {S : Sto} (a : St c S) (e : En) : Prop where
  kind : env.scope.kind = .function
  globals : env.globals = 3
  builtins : env.builtins = 0
  mem : ∀ z ∈ own ks env, z ∈ a.wl
  nd : (own ks env).Nodup
  apart : ∀ z ∈ own ks env, z ∉ gad a.G
  lo : ∀ x, ks.lookup x = some .lo → env.kindOf x = some .local
  ce : ∀ x, ks.lookup x = some .ce → env.kindOf x = some .cell
  gl : ∀ x, ks.lookup x = some .gl → env.kindOf x = some .globalImplicit
  ns : ∃ m, a.s.heap.Ns env.locals m ∧ ∀ x v, ks.lookup x = some .lo → e x = some v → ∃ u, m x = some u ∧ a.vv u v
  cl : ∀ x, ks.lookup x = some .ce → ∃ z w, env.cells.lookup x = some z ∧ a.s.heap.IsCell z w ∧ ∀ v, e x = some v → ∃ u, w = some u ∧ a.vv u v
section
variable {ks : List (Str × EK)} {x y : Str} {u : Value} {v : Val} {e : En} {env : Env} {c : Cx} {S S' : Sto} {X : List Addr} {a : St c S} {b : St c S'}
theorem cell_own {z : Addr} (h : env.cells.lookup x = some z) (k : ks.lookup x = some .ce) : z ∈ (env.cells.filter fun p => ks.lookup p.1 == some .ce).map (·.2) := List.mem_map.mpr ⟨(x, z), List.mem_filter.mpr ⟨mem_of_lookup h, by rw [k]; rfl⟩, rfl⟩
theorem own_cell {z : Addr} (h : env.cells.lookup x = some z) (k : ks.lookup x = some .ce) : z ∈ own ks env := .tail _ (cell_own h k)
theorem ns_at {h h' : Heap} {z : Addr} {m : Str → Option Value} (k : ∀ o, h.get? z = some o → h'.get? z = some o) (i : h.Ns z m) : h'.Ns z m := let ⟨o, es, ep, e, r⟩ := i; ⟨o, es, ep, k o e, r⟩
theorem cell_at {h h' : Heap} {z : Addr} {w : Option Value} (k : ∀ o, h.get? z = some o → h'.get? z = some o) (i : h.IsCell z w) : h'.IsCell z w := let ⟨o, e, r⟩ := i; ⟨o, k o e, r⟩
theorem Fm.step (f : Fm ks env a e) (mem : ∀ z ∈ own ks env, z ∈ b.wl) (apart : ∀ z ∈ own ks env, z ∉ gad b.G) (k : ∀ z ∈ own ks env, ∀ o, a.s.heap.get? z = some o → b.s.heap.get? z = some o) (vk : ∀ u v, a.vv u v → b.vv u v) : Fm ks env b e :=
  { f with
    mem := mem
    apart := apart
    ns := let ⟨m, hn, hv⟩ := f.ns; ⟨m, ns_at (k _ (.head _)) hn, fun x v h1 h2 => let ⟨u, h3, h4⟩ := hv x v h1 h2; ⟨u, h3, vk _ _ h4⟩⟩
    cl := fun x h1 => let ⟨z, w, h2, h3, h4⟩ := f.cl x h1; ⟨z, w, h2, cell_at (k _ (own_cell h2 h1)) h3, fun v h5 => let ⟨u, h6, h7⟩ := h4 v h5; ⟨u, h6, vk _ _ h7⟩⟩ }
theorem Fm.toX (f : Fm ks env a e) (t : To X a b) (n : ∀ z ∈ own ks env, z ∉ X) : Fm ks env b e :=
  f.step (fun z m => t.sub z (f.mem z m)) (fun z m => t.gnew (f.apart z m) (f.mem z m)) (fun z m o => t.eff z o (fun q => (List.mem_append.mp q).elim (n z m) fun w => f.apart z m (W_sub w)) (a.good.off (f.mem z m))) fun _ _ => t.vv
theorem Fm.to (f : Fm ks env a e) (t : To [] a b) : Fm ks env b e := f.toX t fun _ _ m => nomatch m
theorem Fm.last (f : Fm ks env a e) {Z : List Addr} {h' : Heap} {tk : Nat} {zw zg} {hs : ∀ x o, x ∉ Z → a.s.heap.get? x = some o → h'.get? x = some o} (n : ∀ z ∈ own ks env, z ∉ Z) : Fm ks env (a.last Z h' tk zw zg hs) e :=
  f.step (fun z m => mem_last.mpr ⟨f.mem z m, n z m⟩) f.apart (fun z m o => hs z o (n z m)) fun u v h => by
    cases v with
    | d x => exact a.last_v h
    | ref i => exact h
theorem isVa_inv (k : isVa ks x = true) : (x == "__debug__") = false ∧ (ks.lookup x = some .lo ∨ ks.lookup x = some .ce) := by
  unfold isVa at k
  cases hk : ks.lookup x with
  | none => rw [hk] at k; cases k
  | some q =>
    rw [hk] at k
    cases q with
    | lo => exact ⟨by simpa using k, .inl rfl⟩
    | ce => exact ⟨by simpa using k, .inr rfl⟩
    | gl => cases k
theorem isG_inv (k : isG ks x = true) : (x == "__debug__") = false ∧ ks.lookup x = some .gl := by
  unfold isG at k
  cases hk : ks.lookup x with
  | none => rw [hk] at k; cases k
  | some q =>
    rw [hk] at k
    cases q with
    | gl => exact ⟨by simpa using k, rfl⟩
    | _ => cases k
theorem put_same : put x v e x = some v := if_pos (beq_self_eq_true x)
theorem put_ne {w : Option Val} (h : (y == x) = false) (q : e y = w) : put x v e y = w := by unfold put; rw [h]; exact q
def St.one (a : St c S) (z : Addr) (h' : Heap) (tk : Nat) (m : z ∈ a.wl) (n : z ∉ gad a.G) (hs : Heap.SameBut z a.s.heap h') (lv : ∃ o, h'.get? z = some o) : St c S :=
  a.mut [z] h' tk (fun y q => by rw [List.mem_singleton.mp q]; exact m) (fun y q => by rw [List.mem_singleton.mp q]; exact n) (fun y o q e => (hs.2 y fun w => q (by rw [w]; exact .head _)).trans e) (fun y q => by rw [List.mem_singleton.mp q]; exact lv)
theorem St.one_to (a : St c S) {z : Addr} {h' : Heap} {tk : Nat} {m n hs lv} {O : List Addr} (hO : z ∈ O) (ho : ∀ z ∈ O, z ∈ a.wl) : To O a (a.one z h' tk m n hs lv) :=
  (a.mut_to).mono (fun y q => by rw [List.mem_singleton.mp q]; exact hO) ho
theorem St.one_vv (a : St c S) {z : Addr} {h' : Heap} {tk : Nat} {m n hs lv} (h : a.vv u v) : (a.one z h' tk m n hs lv).vv u v := To.vv (a.one_to (O := [z]) (.head _) fun y q => by rw [List.mem_singleton.mp q]; exact m) h
theorem put_if {w : Option Val} (h : put x v e y = w) (hne : y ≠ x) : e y = w := (put_ne (beq_eq_false_iff_ne.mpr hne) rfl).symm.trans h
theorem put_at {w : Val} (h : put x v e y = some w) (q : y = x) : w = v := by rw [q, put_same] at h; exact (Option.some.inj h).symm
theorem Fm.setL (f : Fm ks env a e) (k : ks.lookup x = some .lo) (mem : ∀ z ∈ own ks env, z ∈ b.wl) (apart : ∀ z ∈ own ks env, z ∉ gad b.G) (vk : ∀ u v, a.vv u v → b.vv u v) {m m' : Str → Option Value} (hm : ∀ x v, ks.lookup x = some .lo → e x = some v → ∃ u, m x = some u ∧ a.vv u v)
    (hn : b.s.heap.Ns env.locals m') (h1 : m' x = some u) (h2 : ∀ y, y ≠ x → m' y = m y) (hs : Heap.SameBut env.locals a.s.heap b.s.heap) (hv : a.vv u v) : Fm ks env b (put x v e) :=
  { f with
    mem := mem
    apart := apart
    ns := ⟨m', hn, fun y w q1 q2 => by
      by_cases q : y = x
      · cases put_at q2 q
        exact ⟨u, q ▸ h1, vk _ _ hv⟩
      · obtain ⟨u', e1, e2⟩ := hm y w q1 (put_if q2 q)
        exact ⟨u', (h2 y q).trans e1, vk _ _ e2⟩⟩
    cl := fun y q => by
      obtain ⟨z, w, e1, e2, e3⟩ := f.cl y q
      exact ⟨z, w, e1, e2.sameBut hs fun q2 => (List.nodup_cons.mp f.nd).1 (q2 ▸ cell_own e1 q), fun v' e4 => let ⟨u', e5, e6⟩ := e3 v' (put_if e4 fun q2 => by rw [q2, k] at q; cases q); ⟨u', e5, vk _ _ e6⟩⟩ }
theorem Fm.setC (f : Fm ks env a e) (k : ks.lookup x = some .ce) (mem : ∀ z ∈ own ks env, z ∈ b.wl) (apart : ∀ z ∈ own ks env, z ∉ gad b.G) (vk : ∀ u v, a.vv u v → b.vv u v) {z : Addr} (hz : env.cells.lookup x = some z)
    (hc : b.s.heap.IsCell z (some u)) (hs : Heap.SameBut z a.s.heap b.s.heap) (hv : a.vv u v) : Fm ks env b (put x v e) :=
  { f with
    mem := mem
    apart := apart
    ns := by
      obtain ⟨m, hn, hm⟩ := f.ns
      exact ⟨m, hn.sameBut hs fun q => (List.nodup_cons.mp f.nd).1 (q ▸ cell_own hz k), fun y w q1 q2 => let ⟨u', e1, e2⟩ := hm y w q1 (put_if q2 fun q => by rw [q, k] at q1; cases q1); ⟨u', e1, vk _ _ e2⟩⟩
    cl := fun y q => by
      by_cases q1 : y = x
      · exact ⟨z, some u, q1 ▸ hz, hc, fun v' e4 => ⟨u, rfl, put_at e4 q1 ▸ vk _ _ hv⟩⟩
      · obtain ⟨z', w', e1, e2, e3⟩ := f.cl y q
        refine ⟨z', w', e1, e2.sameBut hs fun w => q1 ?_, fun v' e4 => let ⟨u', e5, e6⟩ := e3 v' (put_if e4 q1); ⟨u', e5, vk _ _ e6⟩⟩
        exact name_of_addr (cs := env.cells.filter fun p => ks.lookup p.1 == some .ce) (List.pairwise_map.mp (List.nodup_cons.mp f.nd).2) (List.mem_filter.mpr ⟨mem_of_lookup (w ▸ e1), by rw [q]; rfl⟩) (List.mem_filter.mpr ⟨mem_of_lookup hz, by rw [k]; rfl⟩) }
theorem Fm.store (f : Fm ks env a e) (k : isVa ks x = true) {A : Around} {O : List Addr} {Q : Unit → Shared → Prop} {E : Value → Shared → Prop} (hO : place env x ∈ O) (ho : ∀ z ∈ O, z ∈ a.wl) (hv : a.vv u v)
    (h : ∀ b : St c S, To O a b → Fm ks env b (put x v e) → Q () b.s) : wpAny (model pw c.w) A (storeName env x u) Q E a.s := by
  unfold place at hO
  rcases (isVa_inv k).2 with k | k
  · obtain ⟨m, hn, hm⟩ := f.ns
    rw [if_pos (f.lo x k)] at hO
    refine wpAny_storeName_local (f.lo x k) hn (fun h' hn' hs => ?_) (by rw [f.kind]; rfl)
    have ml : env.locals ∈ own ks env := .head _
    exact h (a.one env.locals h' _ (f.mem _ ml) (f.apart _ ml) hs (let ⟨o, _, _, e, _⟩ := hn'; ⟨o, e⟩)) (a.one_to hO ho) (f.setL k f.mem f.apart (fun _ _ => a.one_vv) hm hn' (if_pos rfl) (fun _ q => if_neg q) hs hv)
  · obtain ⟨z, w, e1, e2, e3⟩ := f.cl x k
    rw [if_neg (by rw [f.ce x k]; decide), e1] at hO
    have hz := own_cell e1 k
    exact wpAny_storeName_cell f.kind (f.ce x k) e1 e2 fun h' hn' hs => h (a.one z h' a.s.toks (f.mem z hz) (f.apart z hz) hs (let ⟨o, e, _⟩ := hn'; ⟨o, e⟩)) (a.one_to hO ho) (f.setC k f.mem f.apart (fun _ _ => a.one_vv) e1 hn' hs hv)
theorem place_own (f : Fm ks env a e) (k : isVa ks x = true) : place env x ∈ own ks env := by
  unfold place
  rcases (isVa_inv k).2 with k | k
  · rw [if_pos (f.lo x k)]; exact .head _
  · obtain ⟨z, w, e1, _⟩ := f.cl x k
    rw [if_neg (by rw [f.ce x k]; decide), e1]; exact own_cell e1 k
theorem Fm.load (f : Fm ks env a e) (k : isVa ks x = true) (hx : e x = some v) {A : Around} {Q : Value → Shared → Prop} {E : Value → Shared → Prop} (h : ∀ u, a.vv u v → Q u a.s) : wpAny (model pw c.w) A (loadName env x) Q E a.s := by
  rcases (isVa_inv k).2 with k | k
  · obtain ⟨m, hn, hm⟩ := f.ns
    obtain ⟨u, e, hu⟩ := hm x v k hx
    exact wpAny_loadName_local f.kind (f.lo x k) hn e (h u hu)
  · obtain ⟨z, w, e1, e2, e3⟩ := f.cl x k
    obtain ⟨u, rfl, hu⟩ := e3 v hx
    exact wpAny_loadName_cell f.kind (f.ce x k) e1 e2 (h u hu)
end
section
variable {prog : Program} {w : World} {A : Around} {E : Value → Shared → Prop} {s : Shared}
theorem add_lists' {l b : Addr} {vs ws : List Value} {Q : Value → Shared → Prop} (hl : s.heap.IsList l vs.toArray) (hb : s.heap.IsList b ws.toArray)
    (h : Q (.ref s.heap.objs.size) { s with heap := s.heap.push { cls := .type "list", data := .seq (vs ++ ws).toArray } })
    (hsz : vs.length + ws.length ≤ sizeLine) :
    wpAny (model prog w) A (binaryOp .Add (.ref l) (.ref b)) Q E s := by
  obtain ⟨⟨cls, dd, data, sl⟩, ho, hc, n, hd⟩ := id hl
  obtain ⟨⟨cls2, dd2, data2, sl2⟩, ho2, hc2, n2, hd2⟩ := id hb
  simp only at hc hd hc2 hd2
  subst hc hd hc2 hd2
  have e : vs.toArray ++ ws.toArray = (vs ++ ws).toArray := by simp
  refine concat_meets ⟨_, ho, rfl⟩ ⟨_, ho2, rfl⟩ noFill_list_add seq_list_add PySem.F.slot_list_add PySem.F.entry_list_add (PySem.F.args_list_add_2 _ _) (list_addW l b vs.toArray ws.toArray n n2 dd dd2 sl sl2 (by simpa using hsz)) ⟨ho, ho2, ?_⟩
  rw [e]
  exact h
end
section
variable {c : Cx} {S : Sto}
theorem St.newList (a : St c S) {tk : Nat} {vs : List Value} {ds : List D} (x : a.vs vs ds) : (a.push { cls := .type "list", data := .seq vs.toArray } tk).v (.ref a.s.heap.objs.size) (.list ds) := by
  have f := a.good.fresh (Nat.le_refl _)
  exact .lst (vs := vs) f.2.2.2 f.2.2.1 ⟨_, Heap.get?_push_size _ rfl, rfl, _, rfl⟩ (a.push_to.vs x)
theorem St.newTuple (a : St c S) {tk : Nat} {vs : List Value} {ds : List D} (x : a.vs vs ds) : (a.push { cls := .type "tuple", data := .seq vs.toArray } tk).v (.ref a.s.heap.objs.size) (.tuple ds) := by
  have f := a.good.fresh (Nat.le_refl _)
  exact .tup (vs := vs) f.2.2.2 f.2.2.1 ⟨_, Heap.get?_push_size _ rfl, rfl, _, rfl⟩ (a.push_to.vs x)
theorem St.newL (a : St c S) {tk : Nat} {vs : List Value} {l : List D} (hv : a.vs vs l) : ∃ b : St c (new (.list l) S).2, b.s = { a.s with heap := a.s.heap.push { cls := .type "list", data := .seq vs.toArray }, toks := tk } ∧ To [] a b ∧ b.vv (.ref a.s.heap.objs.size) (new (.list l) S).1 := by
  have hn : ∀ z ∈ (⟨a.s.heap.objs.size, none⟩ : Ho).all, a.s.heap.objs.size ≤ z ∧ ∃ ob, (a.s.heap.push { cls := .type "list", data := .seq vs.toArray }).get? z = some ob := fun z q => by
    rw [List.mem_singleton.mp q]; exact ⟨Nat.le_refl _, _, Heap.get?_push_size _ rfl⟩
  refine ⟨a.grow ⟨a.s.heap.objs.size, none⟩ (.list l) (a.s.heap.push { cls := .type "list", data := .seq vs.toArray }) tk (fun _ _ e => Heap.get?_push_of_some _ e) hn (by simp [Ho.all]) (fun vk => ⟨vs, ⟨_, Heap.get?_push_size _ rfl⟩, hv.imp vk⟩), rfl, a.grow_to, ⟨a.s.heap.objs.size, none⟩, ?_, rfl⟩
  show (a.G ++ [_])[S.length]? = _
  rw [← a.good.sat.length]; simp
end
theorem dI_inv {d : D} {i : Int} (h : dI d = some i) : d = .int i := by
  cases d <;> first | (cases h; rfl) | cases h
theorem dS_inv {d : D} {x : Str} (h : dS d = some x) : d = .str x := by
  cases d <;> first | (cases h; rfl) | cases h
theorem dL_inv {d : D} {l : List D} (h : dL d = some l) : d = .list l := by
  cases d <;> first | (cases h; rfl) | cases h
theorem dT_inv {d : D} {l : List D} (h : dT d = some l) : d = .tuple l := by
  cases d <;> first | (cases h; rfl) | cases h
theorem dB_inv {d : D} {b : Bool} (h : dB d = some b) : d = .bool b := by
  cases d <;> first | (cases h; rfl) | cases h
theorem dN_inv {d : D} {b : Unit} (h : dN d = some b) : d = .none := by
  cases d <;> first | rfl | cases h
theorem dat_inv {v : Val} {d : D} (h : v.dat = some d) : v = .d d := by
  cases v <;> first | (cases h; rfl) | cases h
theorem rf_inv {v : Val} {i : Nat} (h : v.rf = some i) : v = .ref i := by
  cases v <;> first | (cases h; rfl) | cases h
theorem isAdd_is {op : Operator} (h : isAdd op = true) : op = .Add := by
  cases op <;> first | rfl | cases h
theorem isMul_is {op : Operator} (h : isMul op = true) : op = .Mult := by
  cases op <;> first | rfl | cases h
theorem oneD_inv {l : List D} {x : D} (h : oneD l = some x) : l = [x] := by
  match l, h with
  | [y], h => cases h; rfl
inductive BinR : Operator → D → D → D → Prop
  | int {op : Operator} {i j k : Int} : binI op i j = some k → BinR op (.int i) (.int j) (.int k)
  | str {p q : Str} : p.length + q.length ≤ sizeLine → BinR .Add (.str p) (.str q) (.str (p ++ q))
  | lst {p q : List D} : p.length + q.length ≤ sizeLine → BinR .Add (.list p) (.list q) (.list (p ++ q))
theorem binD_inv {op : Operator} {a b x : D} (e : binD op a b = some x) : BinR op a b x := by
  cases a with
  | int i =>
    obtain ⟨j, e1, e⟩ := bs e
    obtain ⟨k, e2, rfl⟩ := ms e
    cases dI_inv e1
    exact .int e2
  | str p =>
    obtain ⟨ha, e⟩ := ite_some e
    obtain ⟨q, e1, e⟩ := bs e
    obtain ⟨k, e⟩ := ite_some e
    cases e
    cases isAdd_is ha
    cases dS_inv e1
    exact .str k
  | list p =>
    obtain ⟨ha, e⟩ := ite_some e
    obtain ⟨q, e1, e⟩ := bs e
    obtain ⟨k, e⟩ := ite_some e
    cases e
    cases isAdd_is ha
    cases dL_inv e1
    exact .lst k
  | _ => cases e
theorem dat2_inv {a b : Val} {α : Type} {f : D → D → Option α} {y : α} (e : (a.dat >>= fun x => b.dat >>= f x) = some y) : ∃ p q, a = .d p ∧ b = .d q ∧ f p q = some y := by
  obtain ⟨p, e1, e⟩ := bs e
  obtain ⟨q, e2, e⟩ := bs e
  exact ⟨p, q, dat_inv e1, dat_inv e2, e⟩
theorem repV_inv {op : Operator} {a b : Val} {S : Sto} {z : Val × Sto} (e : repV op a b S = some z) : ∃ y n, op = .Mult ∧ a = .d (.list [y]) ∧ b = .d (.int n) ∧ 0 ≤ n ∧ n ≤ 64 ∧ new (.list (List.replicate n.toNat y)) S = z := by
  obtain ⟨hm, e⟩ := ite_some e
  obtain ⟨a', e1, e⟩ := bs e
  obtain ⟨l, e2, e⟩ := bs e
  obtain ⟨y, e3, e⟩ := bs e
  obtain ⟨b', e4, e⟩ := bs e
  obtain ⟨n, e5, e⟩ := bs e
  obtain ⟨⟨k1, k2⟩, e⟩ := ite_some e
  exact ⟨y, n, isMul_is hm, by rw [dat_inv e1, dL_inv e2, oneD_inv e3], by rw [dat_inv e4, dI_inv e5], k1, k2, Option.some.inj e⟩
inductive IsR : Val → Val → Bool → Prop
  | ref (i : Nat) : IsR (.ref i) (.ref i) true
  | none : IsR (.d .none) (.d .none) true
  | bool (p q : Bool) : IsR (.d (.bool p)) (.d (.bool q)) (p == q)
theorem isV_inv {a b : Val} {y : Bool} (e : isV a b = some y) : IsR a b y := by
  cases a with
  | ref i =>
    obtain ⟨j, e1, e⟩ := bs e
    obtain ⟨k, e⟩ := ite_some e
    cases e
    cases rf_inv e1
    cases k
    exact .ref i
  | d x =>
    obtain ⟨z, e1, e⟩ := bs e
    cases dat_inv e1
    cases x with
    | none =>
      obtain ⟨_, e2, e⟩ := ms e
      cases e
      cases dN_inv e2
      exact .none
    | bool p =>
      obtain ⟨q, e2, e⟩ := ms e
      cases e
      cases dB_inv e2
      exact .bool p q
    | _ => cases e
theorem intB_inv {f : Int → Int → Bool} {a b : Val} {y : Bool} (e : datB (intB f) a b = some y) : ∃ i j, a = .d (.int i) ∧ b = .d (.int j) ∧ f i j = y := by
  obtain ⟨p, q, h1, h2, e⟩ := dat2_inv e
  obtain ⟨i, e1, e⟩ := bs e
  obtain ⟨j, e2, e⟩ := ms e
  exact ⟨i, j, by rw [h1, dI_inv e1], by rw [h2, dI_inv e2], e⟩
theorem eqD_inv {a b : Val} {y : Bool} (e : datB eqD a b = some y) : ∃ p q, a = .d p ∧ b = .d q ∧ okEq p q = true ∧ y = PyData.eqv p q := by
  obtain ⟨p, q, h1, h2, e⟩ := dat2_inv e
  obtain ⟨k, e⟩ := ite_some e
  exact ⟨p, q, h1, h2, k, (Option.some.inj e).symm⟩
inductive GetR (S : Sto) : Val → List D → Prop
  | lst (l : List D) : GetR S (.d (.list l)) l
  | tup (l : List D) : GetR S (.d (.tuple l)) l
  | rl (k : Nat) (l : List D) : S[k]? = some (.list l) → GetR S (.ref k) l
  | ra (k : Nat) (l : List D) (n : Int) : S[k]? = some (.acc l n) → GetR S (.ref k) l
theorem its_inv {a : Val} {S : Sto} {l : List D} (e : a.its S = some l) : GetR S a l := by
  cases a with
  | d x => cases x with
    | list l => cases e; exact .lst _
    | tuple l => cases e; exact .tup _
    | _ => cases e
  | ref k =>
    obtain ⟨m, hm, e⟩ := bs e
    cases m with
    | list l => cases e; exact .rl k _ hm
    | acc l n => cases e; exact .ra k _ n hm
    | lock => cases e
theorem getV_inv {a i q : Val} {S : Sto} (e : getV a i S = some q) : ∃ j l, i = .d (.int j) ∧ itemD l j = some q ∧ GetR S a l := by
  obtain ⟨x, e1, e⟩ := bs e
  obtain ⟨j, e2, e⟩ := bs e
  obtain ⟨l, e3, e⟩ := bs e
  exact ⟨j, l, by rw [dat_inv e1, dI_inv e2], e, its_inv e3⟩
theorem binI_ok {c : Cx} {A : Around} {E : Value → Shared → Prop} {s : Shared} {Q : Value → Shared → Prop} {op : Operator} {i j k : Int} {t t' : Tok} (e : binI op i j = some k) (h : Q (.int k s.toks) { s with toks := s.toks + 1 }) : wpAny (model pw c.w) A (binaryOp op (.int i t) (.int j t')) Q E s := by
  cases op
  case Add => cases e; exact wpAny_add_int h
  case Sub => cases e; exact sub_int' h
  case Mult => obtain ⟨k, e⟩ := ite_some e; cases e; exact PyProof.Rows.mul_int h k
  case FloorDiv =>
    obtain ⟨k, e⟩ := etis e
    cases e
    exact floordiv_int (fun z => k (.inl z)) h (.inl (by simpa using fun z => k (.inr z)))
  case Mod => obtain ⟨k, e⟩ := etis e; cases e; exact mod_int' k h
  case Pow => obtain ⟨k, e⟩ := ite_some e; cases e; exact pow_int k.1 k.2 h
  case LShift => obtain ⟨k, e⟩ := ite_some e; cases e; exact lshift_int k.1 k.2 h
  case RShift => obtain ⟨k, e⟩ := ite_some e; cases e; exact rshift_int k h
  case BitAnd => cases e; exact and_int h
  case BitOr => cases e; exact or_int h
  all_goals cases e
theorem rep_foldl (x : Value) (n : Nat) : List.foldl (fun x1 x2 => x1 ++ x2) #[] (List.replicate n #[x]) = (List.replicate n x).toArray := by
  have key : ∀ (n : Nat) (acc : Array Value), List.foldl (fun x1 x2 => x1 ++ x2) acc (List.replicate n #[x]) = acc ++ (List.replicate n x).toArray := by
    intro n
    induction n with
    | zero => intro acc; simp
    | succ n ih =>
      intro acc
      rw [List.replicate_succ, List.foldl_cons, ih, List.replicate_succ]
      apply Array.ext'
      simp
  simpa using key n #[]
theorem rep_ok {c : Cx} {A : Around} {E : Value → Shared → Prop} {s : Shared} {Q : Value → Shared → Prop} {aa : Addr} {vv : Value} {nn : Int} {tt : Tok} (il : s.heap.IsList aa [vv].toArray) (k1 : 0 ≤ nn) (k2 : nn ≤ 64) (h : Q (.ref s.heap.objs.size) { s with heap := s.heap.push { cls := .type "list", data := .seq (List.replicate nn.toNat vv).toArray } }) : wpAny (model pw c.w) A (binaryOp .Mult (.ref aa) (.int nn tt)) Q E s := by
  obtain ⟨⟨cls, dd, data, sl⟩, ho, hc, k, hd⟩ := il
  simp only at hc hd
  subst hc hd
  refine wpAny_binaryOp_repeat_ref (T := "list") (U := "int") (by decide) ⟨_, ho, rfl⟩ (fun s' => typeIs_int s' nn tt) noFill_list_mul PySem.F.fills_int_mul PySem.F.slot_int_rmul repeat_list PySem.F.slot_int_index.lookup
    (call_meets PySem.F.slot_int_rmul (typeIs_int s nn tt) PySem.F.entry_int_rmul (PySem.F.args_int_rmul_2 _ _) (lm_int_rmul_list_any nn tt aa #[vv] k dd sl)
    ⟨ho, rfl, ⟨_, ho, rfl⟩, call_meets PySem.F.slot_list_mul ⟨_, ho, rfl⟩ PySem.F.entry_list_mul (PySem.F.args_list_mul_2 _ _)
      (lm_list_mul_any aa #[vv] k dd sl nn tt (by simp [Builtin.List.listFitsIndex]; omega) (by simp; omega) (by simp [Builtin.List.listTooLong, sizeLine]; omega))
      ⟨ho, ?_⟩⟩)
  have hrep : List.foldl (fun x1 x2 => x1 ++ x2) #[] (List.replicate (if (#[vv] : Array Value).isEmpty = true then 0 else nn.toNat) #[vv]) = (List.replicate nn.toNat vv).toArray := rep_foldl vv nn.toNat
  rw [hrep]
  exact h
section
variable {c : Cx} {A : Around} {S S' : Sto} {a : St c S} {u v : Value} {p q x : D} {Q : Value → Shared → Prop} {E : Value → Shared → Prop} {op : Operator} {cop : CmpOp} {i j w : Val} {y : Bool} {n : Nat}
theorem binD_ok (e : binD op p q = some x) (hu : a.v u p) (hv : a.v v q) (h : ∀ y (b : St c S), To [] a b → b.v y x → Q y b.s) : wpAny (model pw c.w) A (binaryOp op u v) Q E a.s := by
  cases binD_inv e with
  | int e2 =>
    obtain ⟨t, rfl⟩ := hu.int_
    obtain ⟨t', rfl⟩ := hv.int_
    exact binI_ok e2 (h _ _ a.tok_to (.int _ _))
  | str k =>
    obtain ⟨t, rfl⟩ := hu.str_
    obtain ⟨t', rfl⟩ := hv.str_
    exact PySem.SB.add (fun t' k => h _ (a.tok k) a.tok_to (.str _ _)) k
  | lst k =>
    obtain ⟨l1, vs, rfl, na, nt, il, lu⟩ := hu.lst_
    obtain ⟨l2, ws, rfl, nb, nt', il', lv⟩ := hv.lst_
    exact add_lists' il il' (h _ _ (a.push_to (tk := a.s.toks)) (a.newList (lu.append lv))) (by rw [lu.length, lv.length]; exact k)
theorem vs_rep {wl : List Addr} {h : Heap} {v : Value} {x : D} (hx : V wl h v x) (k : Nat) : Vs wl h (List.replicate k v) (List.replicate k x) := by
  induction k with
  | zero => exact .nil
  | succ k ih => exact .cons hx ih
theorem binV_ok {md : Bool} {z : Val × Sto} (e : binV md op i j S = some z) (hu : a.vv u i) (hv : a.vv v j) (h : ∀ y (b : St c z.2), To [] a b → b.vv y z.1 → Q y b.s) : wpAny (model pw c.w) A (binaryOp op u v) Q E a.s := by
  cases md with
  | false =>
    obtain ⟨p, q, rfl, rfl, e⟩ := dat2_inv e
    obtain ⟨z, e3, rfl⟩ := ms e
    exact binD_ok e3 hu hv h
  | true =>
    obtain ⟨y, n, rfl, rfl, rfl, k1, k2, rfl⟩ := repV_inv e
    obtain ⟨tt, rfl⟩ := V.int_ hv
    obtain ⟨aa, us, rfl, na, nt, il, lu⟩ := V.lst_ hu
    obtain ⟨w, rfl, hw⟩ := lu.one_
    obtain ⟨b, hb, t, hy⟩ := a.newL (tk := a.s.toks) (vs_rep hw n.toNat)
    exact rep_ok il k1 k2 (by have := h _ b t hy; rw [hb] at this; exact this)
theorem eqv_reads (r : Room 8 A) (k : okEq p q = true) (hu : a.v u p) (hv : a.v v q) : (Q (.bool (PyData.eqv p q)) a.s → wpAny (model pw c.w) A (compareOp .Eq u v) Q E a.s) ∧ (Q (.bool (!PyData.eqv p q)) a.s → wpAny (model pw c.w) A (compareOp .NotEq u v) Q E a.s) := by
  obtain ⟨as, ra⟩ := V.reads hu
  obtain ⟨bs, rb⟩ := V.reads hv
  obtain ⟨k1, k2⟩ := Bool.and_eq_true_iff.mp k
  have hl : A.units + 64 < 9900 := by have := r.units; omega
  exact ⟨eq_dataH ra rb k1 k2 hl, ne_dataH ra rb k1 k2 hl⟩
theorem isV_ok (e : isV i j = some y) (hu : a.vv u i) (hv : a.vv v j) {R : Bool → Shared → Prop} (h : R y a.s) : wpAny (model pw c.w) A (isSame u v) R E a.s := by
  cases isV_inv e with
  | ref i =>
    obtain ⟨o, h1, rfl⟩ := hu
    obtain ⟨o', h2, rfl⟩ := hv
    cases get_one h1 h2
    exact wpAny_isSame_ref_self h
  | none =>
    cases V.none_ hu
    cases V.none_ hv
    exact wpAny_isSame_plain rfl h
  | bool p q =>
    cases V.bool_ hu
    cases V.bool_ hv
    refine wpAny_isSame_plain rfl ?_
    have : ((Value.bool p) == (Value.bool q)) = (p == q) := by cases p <;> cases q <;> rfl
    rw [this]; exact h
inductive InR : D → D → Bool → Prop
  | lst {x : D} {l : List D} : okEq (.list l) x = true → InR x (.list l) (l.any fun y => PyData.eqv y x)
  | tup {x : D} {l : List D} : okEq (.tuple l) x = true → InR x (.tuple l) (l.any fun y => PyData.eqv y x)
theorem inD_inv (e : inD p q = some y) : InR p q y := by
  cases q with
  | list l => obtain ⟨k, e⟩ := ite_some e; cases e; exact .lst k
  | tuple l => obtain ⟨k, e⟩ := ite_some e; cases e; exact .tup k
  | _ => cases e
theorem inD_ok (r : Room 8 A) (e : inD p q = some y) (hu : a.v u p) (hv : a.v v q) : (Q (.bool y) a.s → wpAny (model pw c.w) A (compareOp .In u v) Q E a.s) ∧ (Q (.bool (!y)) a.s → wpAny (model pw c.w) A (compareOp .NotIn u v) Q E a.s) := by
  obtain ⟨as, ra⟩ := V.reads hu
  obtain ⟨bs, rb⟩ := V.reads hv
  have room : ∀ (xs : List D), SeqAt.shaped p = true → A.units + 1 + min (PyData.depthAll xs) p.depth < cLine := fun xs ks => room_in_shaped ks (by have := r.units; show A.units + 65 < 9900; omega)
  cases inD_inv e with
  | lst k =>
    obtain ⟨k1, k2⟩ := Bool.and_eq_true_iff.mp k
    exact ⟨SeqAt.in_list_reads rb ra (SeqAt.canLay_of_shaped k1) (SeqAt.canLay_of_shaped k2) (room _ k2), SeqAt.notIn_list_reads rb ra (SeqAt.canLay_of_shaped k1) (SeqAt.canLay_of_shaped k2) (room _ k2)⟩
  | tup k =>
    obtain ⟨k1, k2⟩ := Bool.and_eq_true_iff.mp k
    exact ⟨SeqAt.in_tuple_reads rb ra (SeqAt.canLay_of_shaped k1) (SeqAt.canLay_of_shaped k2) (room _ k2), SeqAt.notIn_tuple_reads rb ra (SeqAt.canLay_of_shaped k1) (SeqAt.canLay_of_shaped k2) (room _ k2)⟩
theorem int_ok {f : Int → Int → Bool} (e : datB (intB f) i j = some y) (hu : a.vv u i) (hv : a.vv v j) {P : Prop} (k : ∀ m n t t', u = .int m t → v = .int n t' → f m n = y → P) : P := by
  obtain ⟨m, n, rfl, rfl, h⟩ := intB_inv e
  obtain ⟨t, rfl⟩ := V.int_ hu
  obtain ⟨t', rfl⟩ := V.int_ hv
  exact k m n t t' rfl rfl h
theorem cmpV_ok (e : cmpV cop i j = some y) (r : Room 8 A) (hu : a.vv u i) (hv : a.vv v j) (h : Q (.bool y) a.s) : wpAny (model pw c.w) A (compareOp cop u v) Q E a.s := by
  cases cop with
  | Eq =>
    obtain ⟨p, q, rfl, rfl, k, rfl⟩ := eqD_inv e
    exact (eqv_reads r k hu hv).1 h
  | NotEq =>
    obtain ⟨z, e1, rfl⟩ := ms e
    obtain ⟨p, q, rfl, rfl, k, rfl⟩ := eqD_inv e1
    exact (eqv_reads r k hu hv).2 h
  | Is => exact wpAny_bind (isV_ok e hu hv (wpAny_pure h))
  | IsNot =>
    obtain ⟨z, e1, rfl⟩ := ms e
    exact wpAny_bind (isV_ok e1 hu hv (wpAny_pure h))
  | In =>
    obtain ⟨p, q, rfl, rfl, e⟩ := dat2_inv e
    exact (inD_ok r e hu hv).1 h
  | NotIn =>
    obtain ⟨z, e1, rfl⟩ := ms e
    obtain ⟨p, q, rfl, rfl, e2⟩ := dat2_inv e1
    exact (inD_ok r e2 hu hv).2 h
  | Lt => exact int_ok e hu hv fun m n t t' h1 h2 h3 => by subst h1 h2 h3; exact lt_int h
  | LtE => exact int_ok e hu hv fun m n t t' h1 h2 h3 => by subst h1 h2 h3; exact le_int h
  | Gt => exact int_ok e hu hv fun m n t t' h1 h2 h3 => by subst h1 h2 h3; exact gt_int h
  | GtE => exact int_ok e hu hv fun m n t t' h1 h2 h3 => by subst h1 h2 h3; exact ge_int h
theorem unD_ok {uop : UnaryOp} (e : unD uop p = some x) (hu : a.v u p) (h : ∀ y (b : St c S), To [] a b → b.v y x → Q y b.s) : wpAny (model pw c.w) A (unaryOp uop u) Q E a.s := by
  cases uop with
  | USub =>
    obtain ⟨i, e1, rfl⟩ := ms e
    cases dI_inv e1
    obtain ⟨t, rfl⟩ := hu.int_
    exact neg_int (h _ _ a.tok_to (.int _ _))
  | Invert =>
    obtain ⟨i, e1, rfl⟩ := ms e
    cases dI_inv e1
    obtain ⟨t, rfl⟩ := hu.int_
    exact invert_int (h _ _ a.tok_to (.int _ _))
  | Not =>
    obtain ⟨i, e1, rfl⟩ := ms e
    cases dB_inv e1
    cases hu.bool_
    exact not_value (wpAny_truthy_bool (h _ _ (To.refl a) (.bool _)))
  | UAdd => cases e
theorem truthD_ok (e : truthD p = some y) (hu : a.v u p) {R : Bool → Shared → Prop} (h : R y a.s) : wpAny (model pw c.w) A (truthy u) R E a.s := by
  cases p with
  | bool b => cases e; cases hu.bool_; exact wpAny_truthy_bool h
  | int i => cases e; obtain ⟨t, rfl⟩ := hu.int_; exact truthy_int h
  | _ => cases e
end
section
variable {c : Cx} {A : Around} {E : Value → Shared → Prop} {s : Shared} {a dx : Addr} {vs : List Value} {n : Nat}
theorem acc_type (ho : s.heap.get? a = some (accObj dx vs n)) {Q : Value → Shared → Prop} (h : Q (.ref 94) s) : wpAny (model pw c.w) A (typeOf (.ref a)) Q E s :=
  wpAny_bind (wpAny_loadPart ho (wpAny_pure h))
theorem acc_special (ho : s.heap.get? a = some (accObj dx vs n)) (K : (zK c.w.params).In s.heap) {name : Str} {r : Option Value} (e : findIn (zK c.w.params) (.ref 94) name = some r) {Q : Option Value → Shared → Prop} (h : Q r s) :
    wpAny (model pw c.w) A (specialOf (.ref a) name) Q E s :=
  wpAny_bind (acc_type ho (Looks.here (looks_findIn K e) h))
theorem acc_sub (K : (zK c.w.params).In s.heap) {Q : Bool → Shared → Prop} (h : Q true s) : wpAny (model pw c.w) A (isSubtype (.ref 94) (.type "list")) Q E s := by
  have e : peek (zK c.w.params) ⟨pw, c.w.params⟩ (isSubtype (.ref 94) (.type "list")) = some true := by kernel_rfl
  exact Looks.here (Looks.of_peek K e) h
theorem acc_inst (ho : s.heap.get? a = some (accObj dx vs n)) (K : (zK c.w.params).In s.heap) {Q : Bool → Shared → Prop} (h : Q true s) : wpAny (model pw c.w) A (isInstance (.ref a) (.type "list")) Q E s :=
  wpAny_bind (acc_type ho (acc_sub K h))
structure SlotA (id n : String) : Prop where
  split : splitId id = some ("list", n)
  kind : (Manifest.find? "list").bind (·.attrs.lookup n) = some .slot ∨ (Manifest.find? "list").bind (·.attrs.lookup n) = some .method
  plain : plainId id = true
theorem SlotA.check {id nm : String} (x : SlotA id nm) (ho : s.heap.get? a = some (accObj dx vs n)) (K : (zK c.w.params).In s.heap) {rest : List Value} {kw : List (Str × Value)} (ha : argsOk id ⟨.ref a :: rest, kw⟩) {Q : Unit → Shared → Prop} (h : Q () s) :
    wpAny (model pw c.w) A (checkBuiltinCall id ⟨.ref a :: rest, kw⟩) Q E s := by
  have hk : builtinKind id = (Manifest.find? "list").bind (·.attrs.lookup nm) := by simp only [builtinKind, x.split]
  rcases x.kind with h' | h' <;>
  · simp only [checkBuiltinCall, hk, h', x.split]
    refine wpAny_bind (acc_inst ho K ?_)
    simp only [Bool.not_true, Bool.false_eq_true, if_false]
    cases hsig : Manifest.signature? id with
    | none => exact wpAny_pure h
    | some sig =>
      simp only [argsOk, hsig] at ha
      have h2 : Bind.checkArgs id sig ⟨.ref a :: rest, kw⟩ = pure () := ha
      show wpAny _ A (Bind.checkArgs id sig ⟨.ref a :: rest, kw⟩) _ _ s
      rw [h2]; exact wpAny_pure h
theorem SlotA.call {id nm : String} (x : SlotA id nm) {b : Builtin} (hb : entryFor table id = some b) (ho : s.heap.get? a = some (accObj dx vs n)) (K : (zK c.w.params).In s.heap) {rest : List Value} (ha : argsOk id ⟨.ref a :: rest, []⟩) {Q : Value → Shared → Prop}
    (hc : wpAny (model pw c.w) A.in1 (b ⟨.ref a :: rest, []⟩) (fun fin s' => ∃ v, fin = .done (.ret v) ∧ Q v s') E s) : wpAny (model pw c.w) A (PySem.call (.builtin id) (.ref a :: rest)) Q E s := by
  refine wpAny_call (codeAny_call_builtin x.plain hb (x.check ho K ha (wpAny_mono hc (fun fin s' h' => ?_) fun _ _ h' => h')))
  obtain ⟨v, rfl, hv⟩ := h'; exact hv
theorem slotA_getitem : SlotA "list.__getitem__" "__getitem__" := ⟨by decide +kernel, by first | exact .inl (by decide +kernel) | exact .inr (by decide +kernel), by decide +kernel⟩
theorem acc_key (ho : s.heap.get? a = some (accObj dx vs n)) (K : (zK c.w.params).In s.heap) {k : Value} {name : Str} {Q : Value → Shared → Prop} (h : Q k s) : wpAny (model pw c.w) A (sequenceKey (.ref a) k name) Q E s := by
  unfold sequenceKey
  refine wpAny_bind (acc_type ho ?_)
  dsimp only
  have e : peek (zK c.w.params) ⟨pw, c.w.params⟩ (seqItemTypes.anyM fun n => isSubtype (.ref 94) (.type n)) = some false := by kernel_rfl
  refine wpAny_bind (Looks.here (Looks.of_peek K e) ?_)
  exact wpAny_pure h
theorem acc_callSpecial (ho : s.heap.get? a = some (accObj dx vs n)) (K : (zK c.w.params).In s.heap) {id : String} {name : Str} (e : findIn (zK c.w.params) (.ref 94) name = some (some (.builtin id))) (hb : ∀ self, bindSpecial (.builtin id) self = pure (.builtin id, [self])) {args : List Value} {Q : Option Value → Shared → Prop}
    (h : wpAny (model pw c.w) A (PySem.call (.builtin id) (.ref a :: args)) (fun v => Q (some v)) E s) : wpAny (model pw c.w) A (callSpecial? (.ref a) name args) Q E s := by
  unfold callSpecial?
  refine wpAny_bind (acc_special ho K e ?_)
  dsimp only
  refine wpAny_holding ?_
  rw [hb]
  refine wpAny_bind (wpAny_pure ?_)
  exact wpAny_bind (wpAny_mono h (fun v s' h' => wpAny_pure h') fun _ _ x => x)
theorem acc_getItem (ho : s.heap.get? a = some (accObj dx vs n)) (K : (zK c.w.params).In s.heap) {k : Int} {t : Tok} {x : Value} {Q : Value → Shared → Prop} (h0 : 0 ≤ k) (hfit : k < 2 ^ 63) (hx : vs[k.toNat]? = some x) (h : Q x s) : wpAny (model pw c.w) A (getItem (.ref a) (.int k t)) Q E s := by
  unfold getItem
  try with_reducible refine wpAny_holding ?_
  first | refine wpAny_bind (wpAny_pure ?_) | skip
  refine wpAny_bind (acc_key ho K ?_)
  refine wpAny_bind (acc_callSpecial ho K (id := "list.__getitem__") (by kernel_rfl) slot_list_getitem.bind (slotA_getitem.call entry_list_getitem ho K (args_list_getitem _ _) ?_))
  show wpAny _ _ (Builtin.List.listSubscript? (.int k t) >>= _) _ _ s
  refine wpAny_bind (wpAny_listSubscript_int (fitsIndex_of h0 hfit) ?_)
  clear hfit
  obtain ⟨j, rfl⟩ := Int.eq_ofNat_of_zero_le h0
  have hx' : vs.toArray[j]? = some x := by simpa using hx
  show wpAny _ _ ((seqItemAt a j >>= fun r => pure (r.map (j, ·))) >>= _) _ _ s
  refine wpAny_bind (wpAny_bind (wpAny_seqItemAt ho rfl (wpAny_pure ?_)))
  rw [hx']
  first
    | exact wpAny_bind (wpAny_pure (wpAny_pure ⟨x, rfl, wpAny_pure h⟩))
    | exact wpAny_pure ⟨x, rfl, wpAny_pure h⟩
end
structure Fr where
  c : Cx
  k : Nat
  ks : List (Str × EK)
section
variable (f : Fr)
structure Pre (env : Env) (A : Around) {S : Sto} (a : St f.c S) (e : En) : Prop where
  room : Room (12 + f.k) A
  fm : Fm f.ks env a e
def EV (x : Expr) (e : En) (S : Sto) (z : Val × Sto) : Prop := ∀ (env : Env) (A : Around) (a : St f.c S) (Q : Value → Shared → Prop), Pre f env A a e → (∀ u (b : St f.c z.2), To [] a b → b.vv u z.1 → Q u b.s) → wpAny (model pw f.c.w) A (eval x env) Q noE a.s
def TV (x : Expr) (e : En) (S : Sto) (z : Bool × Sto) : Prop := ∀ (env : Env) (A : Around) (a : St f.c S) (Q : Bool → Shared → Prop), Pre f env A a e → (∀ b : St f.c z.2, To [] a b → Q z.1 b.s) → wpAny (model pw f.c.w) A (isTrue x env (eval x env)) Q noE a.s
def FlowIs (env : Env) {S : Sto} (a : St f.c S) (w : Flow) : Fl → Prop
  | .next e => w = .next ∧ Fm f.ks env a e
  | .cont e => w = .cont ∧ Fm f.ks env a e
  | .ret d => ∃ u, w = .ret u ∧ a.vv u d
def EX (b : List Stmt) (e : En) (S : Sto) (z : Fl × Sto) : Prop := ∀ (env : Env) (A : Around) (a : St f.c S) (Q : Flow → Shared → Prop), Pre f env A a e → (∀ w (b : St f.c z.2), To (own f.ks env) a b → FlowIs f env b w z.1 → Q w b.s) → wpAny (model pw f.c.w) A (execs b env) Q noE a.s
def SX (b : Stmt) (e : En) (S : Sto) (z : Fl × Sto) : Prop := ∀ (env : Env) (A : Around) (a : St f.c S) (Q : Flow → Shared → Prop), Pre f env A a e → (∀ w (b : St f.c z.2), To (own f.ks env) a b → FlowIs f env b w z.1 → Q w b.s) → wpAny (model pw f.c.w) A (exec b env) Q noE a.s
inductive VS : List Expr → En → Sto → List Val × Sto → Prop
  | nil {e : En} {S : Sto} : VS [] e S ([], S)
  | cons {x : Expr} {xs : List Expr} {e : En} {S S1 S2 : Sto} {v : Val} {vs : List Val} : isStar x = false → EV f x e S (v, S1) → VS xs e S1 (vs, S2) → VS (x :: xs) e S (v :: vs, S2)
inductive AT (op : BoolOp) : List Expr → En → Sto → Bool × Sto → Prop
  | nil {e : En} {S : Sto} : AT op [] e S (op == .And, S)
  | stop {x : Expr} {xs : List Expr} {e : En} {S S1 : Sto} {b : Bool} : TV f x e S (b, S1) → b = (op == .Or) → AT op (x :: xs) e S (b, S1)
  | go {x : Expr} {xs : List Expr} {e : En} {S S1 : Sto} {b : Bool} {z : Bool × Sto} : TV f x e S (b, S1) → b = (op == .And) → AT op xs e S1 z → AT op (x :: xs) e S z
def PV (o : Option Expr) (e : En) (S : Sto) (z : Val × Sto) : Prop := match o with
  | none => z = (.d .none, S)
  | some x => EV f x e S z
end
def OpOk (c : Cx) (n : Nat) (t : List Value → Sem Value) (vs : List Val) (S : Sto) (z : Val × Sto) : Prop :=
  ∀ (A : Around) (a : St c S) (us : List Value) (Q : Value → Shared → Prop), Room n A → a.vvs us vs → (∀ u (b : St c z.2), To [] a b → b.vv u z.1 → Q u b.s) → wpAny (model pw c.w) A (t us) Q noE a.s
theorem starEach_cons {e : Expr} {es : List Expr} {env : Env} (h : isStar e = false) : starEach (e :: es) env = (false, eval e env) :: starEach es env := by
  cases e <;> first | rfl | cases h
def boolK (op : BoolOp) (c : Bool) (x y : Prop) : Prop := if c = (op == .Or) then x else y
section
variable {f : Fr} {env : Env} {A : Around} {e : En} {S S1 S2 S3 S4 : Sto} {a0 : St f.c S} {a1 : St f.c S1} {p q t : Pos} {v a b : Val} {z : Val × Sto} {x y : Expr} {X : List Addr}
theorem Pre.to (h : Pre f env A a0 e) (t : To [] a0 a1) : Pre f env A a1 e := ⟨h.room, h.fm.to t⟩
theorem Pre.r8 (h : Pre f env A a0 e) : Room 8 A := h.room.less (Nat.le_trans (by decide) (Nat.le_add_right 12 _))
theorem e_const {cc : Const} {kk : Nat} {d : D} (h0 : con cc = some d) : EV f (.Constant cc kk p) e S (.d d, S) := by
  intro env A a Q P h
  rw [arm_eval_Constant]
  cases cc with
  | none => cases h0; exact wpAny_pure (h _ _ (To.refl a) .none)
  | bool b => cases h0; exact wpAny_pure (h _ _ (To.refl a) (.bool _))
  | int i => cases h0; exact wpAny_mkInt (h _ _ a.tok_to (.int _ _))
  | str s => cases h0; exact wpAny_mkText (h _ _ a.tok_to (.str _ _))
  | _ => cases h0
theorem e_name {x : Str} (kv : isVa f.ks x = true) (hv : e x = some v) : EV f (.Name x p) e S (v, S) := fun env A a Q P h =>
  wpAny_Name (P.fm.load kv hv fun u hu => h u _ (To.refl a) hu) (isVa_inv kv).1
theorem e_bin {md : Bool} {op : Operator} (h1 : EV f x e S (a, S1)) (h2 : EV f y e S1 (b, S2)) (h3 : binV md op a b S2 = some z) : EV f (.BinOp x op y p) e S z := fun env A a Q P h =>
  wpAny_BinOp (h1 env A a _ P fun u b t1 v1 => h2 env A b _ (P.to t1) fun u2 d t2 v2 => binV_ok h3 (t2.vv v1) v2 fun y _ t3 => h y _ ((t1.trans t2).trans t3))
theorem e_un {op : UnaryOp} {d w : D} (h1 : EV f x e S (.d d, S1)) (h2 : unD op d = some w) : EV f (.UnaryOp op x p) e S (.d w, S1) := fun env A a Q P h =>
  wpAny_UnaryOp (h1 env A a _ P fun u b t1 v1 => unD_ok h2 v1 fun y _ t3 => h y _ (t1.trans t3))
theorem e_cmp {op : CmpOp} {w : Bool} (h1 : EV f x e S (a, S1)) (h2 : EV f y e S1 (b, S2)) (hb : behindInMarks op y = false) (h3 : cmpV op a b = some w) : EV f (.Compare x [op] [y] p) e S (.d (.bool w), S2) := fun env A a Q P h =>
  wpAny_Compare1 (h1 env A a _ P fun u b t1 v1 => h2 env A b _ (P.to t1) fun u2 d t2 v2 => cmpV_ok h3 P.r8 (t2.vv v1) v2 (h _ d (t1.trans t2) (.bool w))) hb
theorem t_cmp {op : CmpOp} {w : Bool} (h1 : EV f x e S (a, S1)) (h2 : EV f y e S1 (b, S2)) (hb : behindInMarks op y = false) (h3 : cmpV op a b = some w) : TV f (.Compare x [op] [y] p) e S (w, S2) := fun env A a Q P h =>
  wpAny_isTrue_Compare1 (h1 env A a _ P fun u b t1 v1 => h2 env A b _ (P.to t1) fun u2 d t2 v2 => cmpV_ok h3 P.r8 (t2.vv v1) v2 (wpAny_truthy_bool (h d (t1.trans t2)))) hb
theorem t_not {w : Bool} (h1 : TV f x e S (w, S1)) : TV f (.UnaryOp .Not x p) e S (!w, S1) := fun env A a Q P h => wpAny_isTrue_Not (h1 env A a _ P h)
theorem e_if {t0 : Expr} {w : Bool} (h1 : TV f t0 e S (w, S1)) (h2 : if w = true then EV f x e S1 z else EV f y e S1 z) : EV f (.IfExp t0 x y p) e S z := fun env A a Q P h =>
  wpAny_IfExp (h1 env A a _ P fun b t1 => by cases w <;> exact h2 env A b _ (P.to t1) fun u d t2 => h u d (t1.trans t2))
theorem e_bool {op : BoolOp} {d : D} {w : Bool} (h1 : EV f x e S (.d d, S1)) (h2 : truthD d = some w) (h3 : boolK op w (z = (.d d, S1)) (EV f y e S1 z)) : EV f (.BoolOp op [x, y] p) e S z := by
  intro env A a Q P h
  have go : EV f y e S1 z → ∀ b : St f.c S1, To [] a b → wpAny (model pw f.c.w) A (eval y env) Q noE b.s := fun h3 b t1 => h3 env A b _ (P.to t1) fun u d t2 => h u d (t1.trans t2)
  have no : z = (.d d, S1) → ∀ (u : Value) (b : St f.c S1), To [] a b → b.vv u (.d d) → Q u b.s := fun h3 u b t1 v1 => by subst h3; exact h u b t1 v1
  cases op with
  | And =>
    refine wpAny_And2 (h1 env A a _ P fun u b t1 v1 => truthD_ok h2 v1 ?_)
    cases w
    · exact no h3 u b t1 v1
    · exact go h3 b t1
  | Or =>
    refine wpAny_Or2 (h1 env A a _ P fun u b t1 v1 => truthD_ok h2 v1 ?_)
    cases w
    · exact go h3 b t1
    · exact no h3 u b t1 v1
theorem AT.ok {op : BoolOp} {es : List Expr} {z : Bool × Sto} (H : AT f op es e S z) : ∀ (env : Env) (A : Around) (a : St f.c S) (Q : Bool → Shared → Prop), Pre f env A a e → (∀ b : St f.c z.2, To [] a b → Q z.1 b.s) → wpAny (model pw f.c.w) A (allTrue op es env) Q noE a.s := by
  induction H with
  | nil => exact fun env A a Q P h => wpAny_pure (h a (To.refl a))
  | stop h1 hb =>
    intro env A a Q P h
    rw [arm_allTrue_cons]
    refine wpAny_bind (h1 env A a _ P fun b t1 => ?_)
    subst hb
    cases op <;> exact wpAny_pure (h b t1)
  | go h1 hb _ ih =>
    intro env A a Q P h
    rw [arm_allTrue_cons]
    refine wpAny_bind (h1 env A a _ P fun b t1 => ?_)
    have := ih env A b Q (P.to t1) fun d t2 => h d (t1.trans t2)
    subst hb
    cases op <;> exact this
theorem a_nil {op : BoolOp} : AT f op [] e S (op == .And, S) := .nil
theorem a_cons {op : BoolOp} {xs : List Expr} {w : Bool} {z : Bool × Sto} (h1 : TV f x e S (w, S1)) (h2 : boolK op w (z = (w, S1)) (AT f op xs e S1 z)) : AT f op (x :: xs) e S z := by
  cases op <;> cases w <;> first | exact .go h1 rfl h2 | (cases h2; exact .stop h1 rfl)
theorem t_bool {op : BoolOp} {xs : List Expr} {z : Bool × Sto} (h : AT f op xs e S z) : TV f (.BoolOp op xs p) e S z := fun env A a Q P hh => wpAny_isTrue_BoolOp (h.ok env A a Q P hh)
theorem VS.ok {es : List Expr} {z : List Val × Sto} (H : VS f es e S z) : ∀ (pos : Pos) (env : Env) (A : Around) (a : St f.c S) (Q : List Value → Shared → Prop), Pre f env A a e → (∀ us (b : St f.c z.2), To [] a b → b.vvs us z.1 → Q us b.s) → wpAny (model pw f.c.w) A (spliced (backTo pos (starEach es env))) Q noE a.s := by
  induction H with
  | nil => exact fun pos env A a Q P h => wpAny_items_nil (h _ a (To.refl a) .nil)
  | cons k0 h1 _ ih => exact fun pos env A a Q P h => wpAny_items_cons (h1 env A a _ P fun u b t1 v1 => ih pos env A b _ (P.to t1) fun us d t2 vv => h (u :: us) d (t1.trans t2) (.cons (t2.vv v1) vv)) (starEach_cons k0)
theorem VS.star {es : List Expr} {z : List Val × Sto} (H : VS f es e S z) : es.any isStar = false := by
  induction H with
  | nil => rfl
  | cons k0 _ _ ih => rw [List.any_cons, k0, ih]; rfl
theorem v_nil : VS f [] e S ([], S) := .nil
theorem v_cons {xs : List Expr} {vs : List Val} (hs : isStar x = false) (h1 : EV f x e S (v, S1)) (h2 : VS f xs e S1 (vs, S2)) : VS f (x :: xs) e S (v :: vs, S2) := .cons hs h1 h2
variable {es : List Expr} {vs : List Val} {ds : List D}
theorem dats_ok {a : St f.c S} {us : List Value} (e : dats vs = some ds) (h : a.vvs us vs) : a.vs us ds := by
  induction vs generalizing us ds with
  | nil => cases e; rw [h.nil_]; exact .nil
  | cons v r ih =>
    obtain ⟨u, us', rfl, h1, h2⟩ := h.cons_
    cases v with
    | d x => obtain ⟨ds', e1, rfl⟩ := ms e; exact .cons h1 (ih e1 h2)
    | ref _ => cases e
theorem e_tuple {kk : Nat} (h1 : VS f es e S (vs, S1)) (h2 : dats vs = some ds) (h3 : ds.length ≤ sizeLine) : EV f (.Tuple es kk p) e S (.d (.tuple ds), S1) := fun env A a Q P h =>
  wpAny_Tuple (h1.ok _ env A a _ P fun us b t1 vv => have hv := dats_ok h2 vv; ⟨by rw [hv.length]; exact h3, h _ _ (t1.trans (b.push_to (tk := b.s.toks))) (b.newTuple hv)⟩)
theorem e_list (h1 : VS f es e S (vs, S1)) (h2 : dats vs = some ds) (h3 : ds.length ≤ sizeLine) : EV f (.List es p) e S (.d (.list ds), S1) := fun env A a Q P h =>
  wpAny_List (h1.ok _ env A a _ P fun us b t1 vv => have hv := dats_ok h2 vv; ⟨by rw [hv.length]; exact h3, h _ _ (t1.trans (b.push_to (tk := b.s.toks))) (b.newList hv)⟩)
theorem e_listM (h1 : VS f es e S (vs, S1)) (h2 : dats vs = some ds) (h3 : ds.length ≤ sizeLine) : EV f (.List es p) e S (.ref S1.length, S1 ++ [.list ds]) := fun env A a Q P h =>
  wpAny_List (h1.ok _ env A a _ P fun us b t1 vv => by
    have hv := dats_ok h2 vv
    obtain ⟨d, hd, t, hy⟩ := b.newL (tk := b.s.toks) hv
    have := h _ d (t1.trans t) hy
    rw [hd] at this
    exact ⟨by rw [hv.length]; exact h3, this⟩)
end
theorem subscripted_is (slice : Expr) (o i : Value) : ∃ vs, subscripted slice false o i = operate vs (getItem o i) := by
  cases slice with
  | Slice lo hi st p => cases st <;> exact ⟨_, rfl⟩
  | _ => exact ⟨_, rfl⟩
theorem sub_ok {c : Cx} {A : Around} {env : Env} {value slice : Expr} {pos : Pos} {s : Shared} {Q : Value → Shared → Prop}
    (h : wpAny (model pw c.w) A (eval value env) (fun o s₁ => wpAny (model pw c.w) A (eval slice env) (fun i s₂ => (∃ a id, o = .ref a ∧ ∀ (Q' : Option Value → Shared → Prop), Q' (some (.builtin id)) s₂ → wpAny (model pw c.w) A (specialOf o "__getitem__") Q' noE s₂) ∧ wpAny (model pw c.w) A (getItem o i) Q noE s₂) noE s₁) noE s) :
    wpAny (model pw c.w) A (eval (.Subscript value slice pos) env) Q noE s := by
  rw [arm_eval_Subscript]
  refine wpAny_bind (wpAny_mono h (fun o s₁ h₁ => wpAny_bind (wpAny_holding (wpAny_mono h₁ (fun i s₂ h₂ => wpAny_bind (wpAny_standAt ?_)) fun _ _ x => x))) fun _ _ x => x)
  obtain ⟨⟨a, id, rfl, hsp⟩, hg⟩ := h₂
  refine wpAny_bind ?_
  unfold getitemInPython
  refine wpAny_bind (hsp _ (wpAny_pure ?_))
  show wpAny _ A (subscripted slice false (.ref a) i >>= _) _ _ s₂
  obtain ⟨vs, e⟩ := subscripted_is slice (.ref a) i
  rw [e]
  exact wpAny_bind (wpAny_operating (wpAny_mono hg (fun r s₃ h₃ => wpAny_bind (wpAny_letTemporaryGo (wpAny_pure h₃))) fun _ _ x => x))
theorem seqIndex_of {k : Int} {n : Nat} (h0 : 0 ≤ k) (h1 : k.toNat < n) : seqIndex? k n = some k.toNat := by
  obtain ⟨j, rfl⟩ := Int.eq_ofNat_of_zero_le h0
  unfold seqIndex?
  rw [Int.toNat_natCast] at h1 ⊢
  simp
  omega
theorem slicePick_list (vs : List Value) (lo hi st : Option Int) : slicePick vs.toArray lo hi st = (sliceL vs lo hi st).toArray := by
  unfold slicePick sliceL picks
  simp
theorem Vs.slice {wl : List Addr} {h : Heap} {vs : List Value} {ds : List D} (x : Vs wl h vs ds) (lo hi st : Option Int) : Vs wl h (sliceL vs lo hi st) (sliceL ds lo hi st) := by
  unfold sliceL
  rw [x.length]
  generalize picks ds.length lo hi st = ps
  induction ps with
  | nil => exact .nil
  | cons p ps ih =>
    rw [List.filterMap_cons, List.filterMap_cons]
    cases e : ds[p]? with
    | none =>
      have : vs[p]? = none := by rw [List.getElem?_eq_none_iff] at e ⊢; rw [x.length]; exact e
      rw [this]; exact ih
    | some d =>
      obtain ⟨v, e', hv⟩ := x.get e
      rw [e']; exact .cons hv ih
theorem partD_ok {wl : List Addr} {h : Heap} {v : Value} {d : D} {p : Option Int} (e : partD d = some p) (x : V wl h v d) : IsPart v p := by
  cases d with
  | none => cases e; cases x.none_; exact .none
  | int i => cases e; obtain ⟨t, rfl⟩ := x.int_; exact .int _ _
  | _ => cases e
theorem sliceV_inv {a : Val} {x y z : D} {S : Sto} {q : Val} (e : sliceV a x y z S = some q) : ∃ lo hi st l, partD x = some lo ∧ partD y = some hi ∧ partD z = some st ∧ ¬ st = some 0 ∧ a = .d (.list l) ∧ l.length ≤ sizeLine ∧ q = .d (.list (sliceL l lo hi st)) := by
  obtain ⟨lo, p1, e⟩ := bs e
  obtain ⟨hi, p2, e⟩ := bs e
  obtain ⟨st, p3, e⟩ := bs e
  obtain ⟨k, e⟩ := etis e
  obtain ⟨a', e6, e⟩ := bs e
  obtain ⟨l, e7, e⟩ := bs e
  obtain ⟨hl, e⟩ := ite_some e
  exact ⟨lo, hi, st, l, p1, p2, p3, k, by rw [dat_inv e6, dL_inv e7], hl, (Option.some.inj e).symm⟩
section
variable {f : Fr} {env : Env} {A : Around} {e : En} {S S1 S2 S3 S4 : Sto} {p q t : Pos} {v a b : Val} {z : Val × Sto} {x y : Expr}
theorem item_inv {l : List D} {i : Int} {q : Val} (h : itemD l i = some q) : 0 ≤ i ∧ i < 4096 ∧ ∃ d, l[i.toNat]? = some d ∧ q = .d d := by
  obtain ⟨⟨k1, k2⟩, h⟩ := ite_some h
  obtain ⟨d, e1, rfl⟩ := ms h
  exact ⟨k1, k2, d, e1, rfl⟩
theorem i63 {i : Int} (h : i < 4096) : i < 2 ^ 63 := by omega
theorem getV_ok {i r : Val} {a0 : St f.c S} {u w : Value} {Q : Value → Shared → Prop} (h0 : getV a i S = some r) (hu : a0.vv u a) (hv : a0.vv w i) (h : ∀ y, a0.vv y r → Q y a0.s) :
    (∃ b id, u = .ref b ∧ ∀ (Q' : Option Value → Shared → Prop), Q' (some (.builtin id)) a0.s → wpAny (model pw f.c.w) A (specialOf u "__getitem__") Q' noE a0.s) ∧ wpAny (model pw f.c.w) A (getItem u w) Q noE a0.s := by
  obtain ⟨j, l, rfl, e8, ha⟩ := getV_inv h0
  obtain ⟨t, rfl⟩ := V.int_ hv
  obtain ⟨k1, k2, d, e1, rfl⟩ := item_inv e8
  have item : ∀ {vs : List Value}, a0.vs vs l → ∃ y, vs[j.toNat]? = some y ∧ a0.vv y (.d d) := fun hvs => All2.get hvs e1
  cases ha with
  | lst _ =>
    obtain ⟨aa, vs, rfl, na, nt, il, lv⟩ := V.lst_ hu
    obtain ⟨y, e2, hy⟩ := item lv
    exact ⟨⟨_, _, rfl, fun Q' hq => wpAny_specialOf il.typeIs list_getitem_lookup hq⟩, wpAny_getItem_list il k1 (i63 k2) (by simpa using e2) (h y hy)⟩
  | tup _ =>
    obtain ⟨aa, vs, rfl, na, nt, il, lv⟩ := V.tup_ hu
    obtain ⟨y, e2, hy⟩ := item lv
    exact ⟨⟨_, _, rfl, fun Q' hq => wpAny_specialOf il.typeIs slot_tuple_getitem.lookup hq⟩, PyProof.Rows.getItem_tuple il (by omega) (i63 k2) (j := _) (seqIndex_of k1 (by simpa using (List.getElem?_eq_some_iff.mp e2).1)) (by simpa using e2) (h y hy)⟩
  | rl k _ hl =>
    obtain ⟨o, eo, rfl⟩ := hu
    obtain ⟨vs, il0, lv⟩ := a0.good.sat.at_ hl eo
    obtain ⟨y, e2, hy⟩ := item lv
    exact ⟨⟨_, _, rfl, fun Q' hq => wpAny_specialOf il0.il.typeIs list_getitem_lookup hq⟩, wpAny_getItem_list il0.il k1 (i63 k2) (by simpa using e2) (h y hy)⟩
  | ra k _ kk hl =>
    obtain ⟨o, eo, rfl⟩ := hu
    obtain ⟨dx, vs, n, t, t', _, ho, _, lv⟩ := a0.good.sat.at_ hl eo
    obtain ⟨y, e2, hy⟩ := item lv
    exact ⟨⟨_, _, rfl, fun Q' hq => acc_special (r := some (.builtin "list.__getitem__")) ho a0.good.kin (by kernel_rfl) hq⟩, acc_getItem ho a0.good.kin k1 (i63 k2) e2 (h y hy)⟩
theorem e_sub (h1 : EV f x e S (a, S1)) (h2 : EV f y e S1 (b, S2)) (h3 : getV a b S2 = some v) : EV f (.Subscript x y p) e S (v, S2) := fun env A a0 Q P h =>
  sub_ok (h1 env A a0 _ P fun u b t1 v1 => h2 env A b _ (P.to t1) fun u2 d t2 v2 => getV_ok h3 (t2.vv v1) v2 fun y hy => h y d (t1.trans t2) hy)
theorem o_none : PV f none e S (.d .none, S) := rfl
theorem o_some (h : EV f x e S z) : PV f (some x) e S z := h
theorem part_ok {o : Option Expr} (h0 : PV f o e S z) {a0 : St f.c S} {Q : Value → Shared → Prop} (P : Pre f env A a0 e) (h : ∀ u (b : St f.c z.2), To [] a0 b → b.vv u z.1 → Q u b.s) : wpAny (model pw f.c.w) A (evalPart o env) Q noE a0.s := by
  cases o with
  | none => cases h0; exact wpAny_pure (h _ _ (To.refl a0) .none)
  | some x => exact h0 env A a0 _ P h
theorem slice_core {a0 : St f.c S} {dl dh ds : D} {u ul uh us : Value} {Q : Value → Shared → Prop} (h0 : sliceV a dl dh ds S = some v) (hu : a0.vv u a) (h1 : a0.v ul dl) (h2 : a0.v uh dh) (h3 : a0.v us ds) (h : ∀ u (b : St f.c S), To [] a0 b → b.vv u v → Q u b.s) :
    (∃ b id, u = .ref b ∧ ∀ (Q' : Option Value → Shared → Prop), Q' (some (.builtin id)) (a0.push { cls := .type "slice", data := .fields #[ul, uh, us] } a0.s.toks).s → wpAny (model pw f.c.w) A (specialOf u "__getitem__") Q' noE (a0.push { cls := .type "slice", data := .fields #[ul, uh, us] } a0.s.toks).s) ∧
      wpAny (model pw f.c.w) A (getItem u (.ref a0.s.heap.objs.size)) Q noE (a0.push { cls := .type "slice", data := .fields #[ul, uh, us] } a0.s.toks).s := by
  obtain ⟨lo, hi, st, l, p1, p2, p3, k, rfl, hl, rfl⟩ := sliceV_inv h0
  obtain ⟨b, vs, rfl, na, nt, il, lv⟩ := V.lst_ hu
  have il' := il.push { cls := .type "slice", data := .fields #[ul, uh, us] }
  have t5 := a0.push_to (o := { cls := .type "slice", data := .fields #[ul, uh, us] }) (tk := a0.s.toks)
  refine ⟨⟨b, _, rfl, fun Q' hq => wpAny_specialOf il'.typeIs list_getitem_lookup hq⟩, ?_⟩
  refine wpAny_getItem_list_slice il' (Heap.IsSliceOf.new ..) (partD_ok p1 h1) (partD_ok p2 h2) (partD_ok p3 h3) k ?_ (by simpa [lv.length] using hl)
  rw [slicePick_list]
  exact h _ _ (t5.trans (St.push_to _)) (St.newList _ (Vs.slice (t5.vs lv) _ _ _))
theorem e_slice {lo hi st : Option Expr} {dl dh ds : D} (h1 : EV f x e S (a, S1)) (h2 : PV f lo e S1 (.d dl, S2)) (h3 : PV f hi e S2 (.d dh, S3)) (h4 : PV f st e S3 (.d ds, S4)) (h5 : sliceV a dl dh ds S4 = some v) : EV f (.Subscript x (.Slice lo hi st q) p) e S (v, S4) := fun env A a0 Q P h =>
  sub_ok (h1 env A a0 _ P fun u b t1 v1 => wpAny_Slice (part_ok h2 (P.to t1) fun u2 d t2 v2 => part_ok h3 ((P.to t1).to t2) fun u3 g t3 v3 => part_ok h4 (((P.to t1).to t2).to t3) fun u4 w t4 v4 =>
    slice_core h5 (t4.vv (t3.vv (t2.vv v1))) (t4.v (t3.v v2)) (t4.v v3) v4 fun y m t5 hy => h y m ((((t1.trans t2).trans t3).trans t4).trans t5) hy))
theorem t_val (hb : ∀ env whole, isTrue x env whole = (do let v ← whole; standAt x.pos; holding [v] (truthy v))) {d : D} {w : Bool} (h1 : EV f x e S (.d d, S1)) (h2 : truthD d = some w) : TV f x e S (w, S1) := fun env A a Q P h =>
  wpAny_isTrue_value (h1 env A a _ P fun u b t1 v1 => truthD_ok h2 v1 (h b t1)) (hb env _)
theorem t_call {g : Expr} {args : List Expr} {d : D} {w : Bool} (h : EV f (.Call g args [] p) e S (.d d, S1)) (h2 : truthD d = some w) : TV f (.Call g args [] p) e S (w, S1) := t_val (fun _ _ => rfl) h h2
theorem t_name {n : Str} {d : D} {w : Bool} (h : EV f (.Name n p) e S (.d d, S1)) (h2 : truthD d = some w) : TV f (.Name n p) e S (w, S1) := t_val (fun _ _ => rfl) h h2
end
theorem put_comm {x y : Str} {v w : Val} {e : En} (h : x ≠ y) : put x v (put y w e) = put y w (put x v e) := by
  funext z
  by_cases q : z = x
  · rw [q, put_same, put_ne (beq_eq_false_iff_ne.mpr h) put_same]
  · have hx := beq_eq_false_iff_ne.mpr q
    rw [put_ne hx rfl]
    by_cases r : z = y
    · rw [r, put_same, put_same]
    · rw [put_ne (beq_eq_false_iff_ne.mpr r) rfl, put_ne (beq_eq_false_iff_ne.mpr r) rfl, put_ne hx rfl]
theorem putN_put {x : Str} {v : Val} {xs : List Str} {vs : List Val} {e : En} (h : x ∉ xs) : putN xs vs (put x v e) = put x v (putN xs vs e) := by
  induction xs generalizing vs e with
  | nil => rfl
  | cons y xs ih =>
    cases vs with
    | nil => rfl
    | cons w vs =>
      show putN xs vs (put y w (put x v e)) = _
      rw [← put_comm (x := x) (y := y) (fun q => h (by rw [q]; exact .head _)), ih fun m => h (.tail _ m)]; rfl
theorem putN_snoc {x : Str} {v : Val} {xs : List Str} {vs : List Val} {e : En} (h : xs.length = vs.length) : putN (xs ++ [x]) (vs ++ [v]) e = put x v (putN xs vs e) := by
  induction xs generalizing vs e with
  | nil => cases vs with
    | nil => rfl
    | cons _ _ => cases h
  | cons y xs ih => cases vs with
    | nil => cases h
    | cons w vs => exact ih (Nat.succ.inj h)
theorem putN_rev {xs : List Str} {vs : List Val} {e : En} (nd : xs.Nodup) (h : xs.length = vs.length) : putN xs.reverse vs.reverse e = putN xs vs e := by
  induction xs generalizing vs with
  | nil => cases vs with
    | nil => rfl
    | cons _ _ => cases h
  | cons x xs ih => cases vs with
    | nil => cases h
    | cons v vs =>
      have nd := List.nodup_cons.mp nd
      rw [List.reverse_cons, List.reverse_cons, putN_snoc (by rw [List.length_reverse, List.length_reverse]; exact Nat.succ.inj h), ih nd.2 (Nat.succ.inj h)]
      exact (putN_put nd.1).symm
def TS (env : Env) (t : Value → Sem Unit) (x : Str) : Prop := ∀ (c : Cx) (A : Around) (v : Value) (s : Shared) (Q : Unit → Shared → Prop), wpAny (model pw c.w) A (storeName env x v) Q noE s → wpAny (model pw c.w) A (t v) Q noE s
theorem Nms.inv {env : Env} {es : List Expr} {xs : List Str} (h : Nms es xs) : All2 (TS env) ((assignEach es env).map (·.2)) xs ∧ (assignEach es env).length = xs.length ∧ (assignEach es env).findIdx? (·.1) = none ∧ es.filterMap nm = xs ∧ es.length = xs.length := by
  induction h with
  | nil => exact ⟨.nil, rfl, rfl, rfl, rfl⟩
  | @cons x p es xs _ ih =>
    refine ⟨.cons (fun c A v s Q hh => wpAny_assign_Name hh) ih.1, congrArg Nat.succ ih.2.1, ?_, ?_, congrArg Nat.succ ih.2.2.2.2⟩
    · show ((false, assign (.Name x p) env) :: assignEach es env).findIdx? (·.1) = none
      rw [List.findIdx?_cons, ih.2.2.1]; rfl
    · exact congrArg (List.cons x) ih.2.2.2.1
theorem bind_ts {env : Env} (xs : List Str) : All2 (TS env) (xs.map fun n => bindName env n) xs := by
  induction xs with
  | nil => exact .nil
  | cons x xs ih => exact .cons (fun c A v s Q hh => wpAny_bindName hh) ih
theorem All2.rev {α β : Type} {R : α → β → Prop} {l : List α} {m : List β} (x : All2 R l m) : All2 R l.reverse m.reverse := by
  induction x with
  | nil => exact .nil
  | cons x _ ih => rw [List.reverse_cons, List.reverse_cons]; exact ih.append (.cons x .nil)
theorem stores_ok {c : Cx} {ks : List (Str × EK)} {env : Env} {A : Around} {S : Sto} {O : List Addr} {ts : List (Value → Sem Unit)} {xs : List Str} (ht : All2 (TS env) ts xs) : ∀ (us : List Value) (vs : List Val) (e : En) (a : St c S) (Q : Unit → Shared → Prop), xs.all (isVa ks) = true → (∀ x ∈ xs, place env x ∈ O) → (∀ z ∈ O, z ∈ a.wl) → Fm ks env a e → a.vvs us vs → xs.length = vs.length →
    (∀ b : St c S, To O a b → Fm ks env b (putN xs vs e) → Q () b.s) → wpAny (model pw c.w) A (assignInOrder ts us) Q noE a.s := by
  induction ht with
  | nil =>
    intro us vs e a Q _ _ ho f hv hl h
    cases vs with
    | nil => rw [hv.nil_]; exact wpAny_pure (h a ((To.refl a).wide ho) f)
    | cons _ _ => cases hl
  | cons h1 _ ih =>
    intro us vs e a Q hx hO ho f hv hl h
    cases vs with
    | nil => cases hl
    | cons v vs =>
      obtain ⟨u, us, rfl, hv1, hv2⟩ := hv.cons_
      rw [List.all_cons, Bool.and_eq_true] at hx
      exact wpAny_bind (wpAny_holding (h1 _ _ _ _ _ (f.store hx.1 (hO _ (.head _)) ho hv1 fun b t1 f1 => ih us vs _ b Q hx.2 (fun x m => hO x (.tail _ m)) (fun z m => t1.sub z (ho z m)) f1 (t1.vvs hv2) (Nat.succ.inj hl) fun d t2 => h d (t1.trans t2))))
def Item (tgt : Expr) {c : Cx} {S : Sto} (a : St c S) (v : Value) (d : D) : Prop :=
  if isTupT tgt = true then ∀ ds, d = .tuple ds → ∃ T vals, v = .ref T ∧ a.s.heap.IsTuple T vals.toArray ∧ a.vs vals ds else a.v v d
theorem V.item {tgt : Expr} {c : Cx} {S : Sto} {a : St c S} {v : Value} {d : D} (x : a.v v d) : Item tgt a v d := by
  unfold Item
  split
  · rintro ds rfl; obtain ⟨T, vs, h1, _, _, h2, h3⟩ := V.tup_ x; exact ⟨T, vs, h1, h2, h3⟩
  · exact x
section
variable {f : Fr} {env : Env} {A : Around} {e e1 : En} {S S1 : Sto} {a : St f.c S} {tgt : Expr} {d : D} {v : Value} {O : List Addr} {Q : Unit → Shared → Prop}
theorem lt_of_some {h : Heap} {b : Addr} {o : Obj} (e : h.get? b = some o) : b ≠ h.objs.size := Nat.ne_of_lt (Heap.lt_size e)
theorem asg_at (h0 : Asg f.ks tgt d e e1) (hO : ∀ x ∈ tnames tgt, isVa f.ks x = true → place env x ∈ O) (ho : ∀ z ∈ O, z ∈ a.wl) (P : Pre f env A a e) (hv : Item tgt a v d)
    (h : ∀ b : St f.c S, To O a b → Fm f.ks env b e1 → Q () b.s) : wpAny (model pw f.c.w) A (assign tgt env v) Q noE a.s := by
  cases h0 with
  | name k => exact wpAny_assign_Name (P.fm.store k (hO _ (.head _) k) ho (v := .d d) hv h)
  | @tup es kk p xs ds _ hn ha hl =>
    obtain ⟨T, vals, rfl, it, hvs⟩ := hv ds rfl
    obtain ⟨h2, h3, h4, h5, _⟩ := hn.inv (env := env)
    refine wpAny_assign_Tuple P.room.hd it (by rw [h3, hl, ← hvs.length]; simp) h4 fun h' he => ?_
    have t0 := a.keep_to (h' := h') (tk := a.s.toks) (k := fun b o e => he b o (lt_of_some e) e)
    exact stores_ok h2 vals (ds.map .d) e (a.keep h' a.s.toks _) Q ha (fun x m => hO x (by rw [← h5] at m; exact m) (List.all_eq_true.mp ha x m)) ho (P.fm.to t0) (All2.map (fun _ _ y => y) (t0.vs hvs)) (by rw [List.length_map]; exact hl) fun b t1 => h b (t0.wide ho |>.trans t1)
end
structure Itr where
  I : Addr
  fp : List Addr
  wr : List Addr
  P : Nat → Value → Heap → Prop
  Md : Nat → Value → Heap → Prop
  St : Nat → Heap → Prop
structure ItAt {c : Cx} (A : Around) (tgt : Expr) {S : Sto} (a : St c S) (it : Itr) (l : List D) : Prop where
  turns : KTurns pw c.w A tgt it.I it.fp it.wr l.length it.P it.Md it.St
  st : it.St 0 a.s.heap
  self : ∀ (s' : Shared) (Q : Value → Shared → Prop), it.St 0 s'.heap → Q (.ref it.I) s' → wpAny (model pw c.w) A (pyIter (.ref it.I)) Q noE s'
  fpo : ∀ b ∈ it.fp, (∃ o, a.s.heap.get? b = some o) ∧ b ∉ W a.G S ∧ b ∉ tabs ∧ (b ∈ a.wl → b ∈ it.wr ∨ b ∈ gad a.G)
  wro : ∀ b ∈ it.wr, b ∈ a.wl ∧ b ∉ gad a.G
  live : ∀ i h, it.St i h → ∀ b ∈ it.wr, ∃ o, h.get? b = some o
  item : ∀ {X : List Addr} {S' : Sto} (b : St c S') (i : Nat) (v : Value) (d : D), To X a b → it.P i v b.s.heap → l[i]? = some d → Item tgt b v d
section
variable {c : Cx} {A : Around} {tgt : Expr} {S S' S'' : Sto} {a : St c S} {b : St c S'} {d : St c S''} {it : Itr} {l : List D} {X : List Addr}
theorem ItAt.keep (x : ItAt A tgt a it l) (t : To X a b) (u : To X b d) (n : ∀ z ∈ it.fp, z ∈ X → False) {i : Nat} (h : it.St i b.s.heap) : it.St i d.s.heap :=
  x.turns.frame i _ _ h fun z hz o ho => u.eff z o (fun m => by
    obtain ⟨⟨ob, e⟩, hw, _, _⟩ := x.fpo z hz
    rcases List.mem_append.mp m with q | q
    · exact n z hz q
    · exact (t.wn z q).elim hw (no_some e)) (x.fpo z hz).2.2.1 ho
theorem ItAt.to (x : ItAt A tgt a it l) (t : To [] a b) : ItAt A tgt b it l where
  turns := x.turns
  st := x.keep (To.refl a) t (fun _ _ m => nomatch m) x.st
  self := x.self
  fpo := fun z hz => by
    obtain ⟨⟨o, e⟩, h1, h2, h3⟩ := x.fpo z hz
    exact ⟨⟨o, t.eff z o (fun m => h1 m) h2 e⟩, fun m => (t.wn z m).elim h1 (no_some e), h2, fun m => (t.new z m).elim (fun q => (h3 q).imp id fun w => let ⟨r, hr⟩ := t.pre; by rw [← hr]; unfold gad at w ⊢; rw [List.flatMap_append]; exact List.mem_append_left _ w) (no_some e)⟩
  wro := fun z hz => ⟨t.sub z (x.wro z hz).1, t.gnew (x.wro z hz).2 (x.wro z hz).1⟩
  live := x.live
  item := fun b i v d tt hp hd => x.item b i v d (t.after (Y := List.filter (fun z => a.wl.contains z) _) tt (fun z m => (t.new z (tt.xs z m)).imp (fun q => List.mem_filter.mpr ⟨m, by simpa using q⟩) id) fun z m => by simpa using (List.mem_filter.mp m).2) hp hd
theorem ItAt.turn (x : ItAt A tgt a it l) (t : To X a b) (hX : ∀ z ∈ it.wr, z ∈ X) {i : Nat} (hi : i < l.length) (h : it.St i b.s.heap) {R : Option Value → Shared → Prop} {E : Value → Shared → Prop}
    (k : ∀ v s1, (∀ (R' : Unit → Shared → Prop) (E' : Value → Shared → Prop), (∀ d : St c S', To it.wr b d → it.St (i + 1) d.s.heap → Item tgt d v l[i] → R' () d.s) → wpAny (model pw c.w) A (letOwnedTupleGo tgt (.ref it.I) v) R' E' s1) → R (some v) s1) : wpAny (model pw c.w) A (pyNext (.ref it.I)) R E b.s :=
  x.turns.item i _ _ _ hi h fun v h1 tk1 hMd hk1 => k v _ fun R' E' k' => x.turns.go i v _ _ _ hMd fun h2 hP hst2 hk2 => by
    have zw : ∀ z ∈ it.wr, z ∈ b.wl := fun z m => t.sub z (x.wro z m).1
    have tb := b.mut_to (X := it.wr) (h' := h2) (tk := tk1) (m := zw) (n := fun z m => t.gnew (x.wro z m).2 (x.wro z m).1) (hs := fun y o hb q => hk2 y o hb (hk1 y o hb q)) (lv := x.live _ _ hst2)
    exact k' (b.mut it.wr h2 tk1 _ _ _ _) tb hst2 (x.item _ i v _ (t.trans (tb.mono hX fun z m => t.sub z (t.xs z m))) hP (List.getElem?_eq_getElem hi))
theorem ItAt.done (x : ItAt A tgt a it l) (t : To X a b) (h : it.St l.length b.s.heap) {R : Option Value → Shared → Prop} {E : Value → Shared → Prop} (k : ∀ h' tk zw zg hs, R none (b.last it.wr h' tk zw zg hs).s) : wpAny (model pw c.w) A (pyNext (.ref it.I)) R E b.s :=
  x.turns.done _ _ _ h fun h1 tk1 hk1 => k h1 tk1 (fun z m => t.sub z (x.wro z m).1) (fun z m => t.gnew (x.wro z m).2 (x.wro z m).1) hk1
end
inductive FG (f : Fr) (tgt : Expr) (body : List Stmt) : List D → En → Sto → Fl × Sto → Prop
  | nil {e : En} {S : Sto} : FG f tgt body [] e S (.next e, S)
  | next {x : D} {l : List D} {e e1 e2 : En} {S S1 : Sto} {z : Fl × Sto} : Asg f.ks tgt x e e1 → EX f body e1 S (.next e2, S1) → FG f tgt body l e2 S1 z → FG f tgt body (x :: l) e S z
  | cont {x : D} {l : List D} {e e1 e2 : En} {S S1 : Sto} {z : Fl × Sto} : Asg f.ks tgt x e e1 → EX f body e1 S (.cont e2, S1) → FG f tgt body l e2 S1 z → FG f tgt body (x :: l) e S z
  | ret {x : D} {l : List D} {e e1 : En} {S S1 : Sto} {v : Val} : Asg f.ks tgt x e e1 → EX f body e1 S (.ret v, S1) → FG f tgt body (x :: l) e S (.ret v, S1)
section
variable {f : Fr} {env : Env} {A : Around} {tgt : Expr} {body : List Stmt} {S0 S : Sto} {a0 : St f.c S0} {a : St f.c S} {it : Itr} {L : List D} {e : En} {z : Fl × Sto}
theorem FG.inv (h : FG f tgt body L e S z) : match (motive := List D → Prop) L with
    | [] => z = (.next e, S)
    | x :: l => ∃ e1, Asg f.ks tgt x e e1 ∧ ((∃ e2 S1, (EX f body e1 S (.next e2, S1) ∨ EX f body e1 S (.cont e2, S1)) ∧ FG f tgt body l e2 S1 z) ∨ ∃ v, EX f body e1 S (.ret v, z.2) ∧ z.1 = .ret v) := by
  cases h with
  | nil => rfl
  | next a b d => exact ⟨_, a, .inl ⟨_, _, .inl b, d⟩⟩
  | cont a b d => exact ⟨_, a, .inl ⟨_, _, .inr b, d⟩⟩
  | ret a b => exact ⟨_, a, .inr ⟨_, b, rfl⟩⟩
inductive FI (f : Fr) (env : Env) (tgt : Expr) (body : List Stmt) (X : List Addr) {S : Sto} (a : St f.c S) (it : Itr) (L : List D) (z : Fl × Sto) : Nat → Shared → Prop
  | mk {i : Nat} {e : En} {Sk : Sto} {b : St f.c Sk} : i ≤ L.length → it.St i b.s.heap → To X a b → Fm f.ks env b e → FG f tgt body (L.drop i) e Sk z → FI f env tgt body X a it L z (L.length + 1 - i) b.s
theorem forGo_ok (room : Room (12 + f.k) A) (t0 : To [] a0 a) (x : ItAt A tgt a it L) (hz : ∀ y ∈ it.wr, a0.s.heap.get? y = none) (fm : Fm f.ks env a e) (hown : ∀ y ∈ own f.ks env, y ∈ a0.wl) (h0 : FG f tgt body L e S z) {Q : Flow → Shared → Prop}
    (h : ∀ w (b : St f.c z.2), To (own f.ks env) a0 b → FlowIs f env b w z.1 → Q w b.s) :
    codeAny (model pw f.c.w) A (.forLoop tgt (.ref it.I) body [] env) (fun r s' => match r with | .ok f => Q f s' | .error e => cameBackBy (model pw f.c.w) A env noE e s') a.s := by
  have ow : ∀ y ∈ own f.ks env, y ∉ it.wr := fun y m q => a0.good.no (hown y m) (hz y q)
  have xsw : ∀ {S' : Sto} {b : St f.c S'}, (∀ y ∈ a.wl, y ∈ b.wl) → ∀ y ∈ own f.ks env ++ it.wr, y ∈ b.wl := fun k y m => (List.mem_append.mp m).elim (fun q => k y (fm.mem y q)) fun q => k y (x.wro y q).1
  have oX : ∀ y ∈ own f.ks env, y ∈ own f.ks env ++ it.wr := fun y m => List.mem_append_left _ m
  have nfp : ∀ y ∈ it.fp, y ∈ own f.ks env → False := fun y m q => ((x.fpo y m).2.2.2 (fm.mem y q)).elim (ow y q) (fm.apart y q)
  have back : ∀ {S' : Sto} {b : St f.c S'}, To (own f.ks env ++ it.wr) a b → To (own f.ks env) a0 b := fun t => t0.after t (fun y m => (List.mem_append.mp m).imp id (hz y)) hown
  refine codeAny_forLoop_any (FI f env tgt body (own f.ks env ++ it.wr) a it L z) ?_ (L.length + 1) (.mk (i := 0) (Nat.zero_le _) x.st ((To.refl a).wide (xsw fun _ m => m)) fm h0)
  intro k' sk hI
  cases hI with
  | @mk i ek Sk b hi hst tk fk hG =>
  by_cases hlt : i < L.length
  · rw [List.drop_eq_getElem_cons hlt] at hG
    obtain ⟨e1, ha, hG⟩ := hG.inv
    refine x.turn tk (fun y m => List.mem_append_right _ m) hlt hst fun v s1 go => go _ _ fun d td hd itm => ?_
    have up : ∀ {S' : Sto} {d' : St f.c S'}, To (own f.ks env) d d' → To (own f.ks env ++ it.wr) a d' := fun t => (tk.trans (td.mono (fun y m => List.mem_append_right _ m) (xsw tk.sub))).trans (t.mono oX fun y m => td.sub y (xsw tk.sub y m))
    refine wpAny_mono (asg_at (A := A) ha (fun y m k => place_own (fk.toX td ow) k) (fk.toX td ow).mem ⟨room, fk.toX td ow⟩ itm (Q := fun _ s2 => wpAny (model pw f.c.w) A (execs body env) _ _ s2) fun d2 t2 f2 => ?_) (fun _ _ x => x) fun _ _ x => x.elim
    have again : ∀ {S1 : Sto} {d3 : St f.c S1} {e2 : En}, To (own f.ks env) d2 d3 → Fm f.ks env d3 e2 → FG f tgt body (L.drop (i + 1)) e2 S1 z → ∃ m, m < L.length + 1 - i ∧ FI f env tgt body (own f.ks env ++ it.wr) a it L z m d3.s :=
      fun t3 f3 hg => ⟨L.length + 1 - (i + 1), by omega, .mk hlt (x.turns.frame (i + 1) _ _ hd fun y m o ho => (t2.trans t3).eff y o (fun q => by
        obtain ⟨⟨ob, ey⟩, hw, _, _⟩ := x.fpo y m
        exact (List.mem_append.mp q).elim (nfp y m) fun w => ((tk.trans (td.mono (fun y m => List.mem_append_right _ m) (xsw tk.sub))).wn y w).elim hw (no_some ey)) (x.fpo y m).2.2.1 ho) (up (t2.trans t3)) f3 hg⟩
    refine wpAny_mono (E := noE) (Q := fun fw s4 => match fw with
      | .next | .cont => ∃ m, m < L.length + 1 - i ∧ FI f env tgt body (own f.ks env ++ it.wr) a it L z m s4
      | .brk => Q .next s4
      | .ret v => Q (.ret v) s4) ?_ (fun fw s x => by cases fw <;> exact x) fun _ _ x => x.elim
    rcases hG with ⟨e2, S1, ex | ex, hg⟩ | ⟨v, ex, ez⟩
    · exact ex env A d2 _ ⟨room, f2⟩ fun w d3 t3 fl => by obtain ⟨rfl, f3⟩ := fl; exact again t3 f3 hg
    · exact ex env A d2 _ ⟨room, f2⟩ fun w d3 t3 fl => by obtain ⟨rfl, f3⟩ := fl; exact again t3 f3 hg
    · exact ex env A d2 _ ⟨room, f2⟩ fun w d3 t3 fl => by
        obtain ⟨u, rfl, hu⟩ := fl
        exact h (.ret u) d3 (back (up (t2.trans t3))) (by rw [ez]; exact ⟨u, rfl, hu⟩)
  · have hie : i = L.length := Nat.le_antisymm hi (Nat.le_of_not_lt hlt)
    rw [hie, List.drop_length] at hG
    have hG := hG.inv
    subst hG
    exact x.done tk (hie ▸ hst) fun h1 tk1 zw zg hs => wpAny_execs_nil (h .next _ ((back tk).last hz) ⟨rfl, fk.last ow⟩)
end
def IsSeq (h : Heap) (a : Addr) (items : Array Value) : Prop := ∃ o, h.get? a = some o ∧ ∃ n, o.data = .seq items n
section
variable {prog : Program} {w : World} {A : Around} {E : Value → Shared → Prop} {s : Shared}
theorem seq_next_item {it l : Addr} {i : Nat} {items : Array Value} {x : Value} {Q : Option Value → Shared → Prop} (hit : s.heap.IsListIter it l i) (hl : IsSeq s.heap l items) (hx : items[i]? = some x)
    (hQ : ∀ h', h'.IsListIter it l (i + 1) → Heap.SameBut it s.heap h' → Q (some x) { s with heap := h' }) : wpAny (model prog w) A (pyNext (.ref it)) Q E s := by
  obtain ⟨o, ho, hc, hd⟩ := id hit
  obtain ⟨ol, hol, nl, hdl⟩ := hl
  unfold pyNext
  refine wpAny_bind (wpAny_attempt (wpAny_callSpecial?_slot (name := Str.ofString "__next__") hit.typeIs slot_listiter_next (wpAny_call_entry slot_listiter_next hit.typeIs entry_listiter_next ?_ (args_listiter_next _))))
  show wpAny _ _ (field (.ref it) 0 >>= _) _ _ s
  refine wpAny_bind (wpAny_field ho hd (x := .ref l) rfl ?_)
  show wpAny _ _ (if (Value.ref l == Value.none) = true then _ else _) _ _ s
  rw [if_neg (show ¬ ((Value.ref l == Value.none) = true) from Bool.false_ne_true)]
  refine wpAny_bind (wpAny_field ho hd (x := .int i 0) rfl ?_)
  refine wpAny_bind (wpAny_seqItems hol hdl ?_)
  simp only [Int.toNat_natCast, hx]
  refine wpAny_bind (wpAny_setField ho hd (by simp) (wpAny_pure ⟨x, rfl, wpAny_pure (hQ _ ?_ (Heap.SameBut.update ..))⟩))
  exact ⟨_, Heap.get?_update_self _ ho (Obj.isFreed_of_fields (Obj.data_mapFields hd _)), (Obj.cls_mapFields ..).trans hc, by rw [Obj.data_mapFields hd]; simp [rawInt]⟩
theorem seq_next_end {it l : Addr} {i : Nat} {items : Array Value} {Q : Option Value → Shared → Prop} (hh : A.handled = none) (hit : s.heap.IsListIter it l i) (hl : IsSeq s.heap l items) (hx : items[i]? = none)
    (hQ : ∀ h', Heap.ExtBut it s.heap h' → Q none { s with heap := h' }) : wpAny (model prog w) A (pyNext (.ref it)) Q E s := by
  obtain ⟨o, ho, hc, hd⟩ := id hit
  obtain ⟨ol, hol, nl, hdl⟩ := hl
  unfold pyNext
  refine wpAny_bind (wpAny_attempt (wpAny_callSpecial?_slot (name := Str.ofString "__next__") hit.typeIs slot_listiter_next (wpAny_call_entry slot_listiter_next hit.typeIs entry_listiter_next ?_ (args_listiter_next _))))
  show wpAny _ _ (field (.ref it) 0 >>= _) _ _ s
  refine wpAny_bind (wpAny_field ho hd (x := .ref l) rfl ?_)
  show wpAny _ _ (if (Value.ref l == Value.none) = true then _ else _) _ _ s
  rw [if_neg (show ¬ ((Value.ref l == Value.none) = true) from Bool.false_ne_true)]
  refine wpAny_bind (wpAny_field ho hd (x := .int i 0) rfl ?_)
  refine wpAny_bind (wpAny_seqItems hol hdl ?_)
  simp only [Int.toNat_natCast, hx]
  refine wpAny_bind (wpAny_rule (wpAny_bind (wpAny_setField ho hd (by simp) ?_)))
  show wpAny _ _ (newExc (.type "StopIteration") [] >>= _) _ _ _
  refine wpAny_bind ?_
  simp only [newExc, newTuple]
  refine wpAny_bind (wpAny_newObj_type ?_ (by size_fits))
  refine wpAny_bind (m := firstArgMember _ _) (wpAny_of_eq (a := Value.none) (by first | rfl | (simp only [firstArgMember]; rfl)) ?_)
  refine wpAny_newObj_type ?_ (by size_fits)
  simp only [raiseNew]
  refine wpAny_bind (wpAny_handled ?_)
  rw [show A.in1.handled = none from hh]
  refine wpAny_bind (wpAny_pure (wpAny_throw ?_))
  refine wpAny_bind (wpAny_isInstance (T := "StopIteration") (b := true) ⟨_, Heap.get?_push_size _ rfl, rfl⟩ isSubtype_stop ?_)
  exact wpAny_pure (hQ _ (((Heap.SameBut.update ..).extBut.push _).push _))
theorem IsSeq.at {h h' : Heap} {a : Addr} {items : Array Value} (x : IsSeq h a items) (e : ∀ o, h.get? a = some o → h'.get? a = some o) : IsSeq h' a items := let ⟨o, ho, r⟩ := x; ⟨o, e _ ho, r⟩
theorem walks_seq (hh : A.handled = none) (I ax : Addr) (hne : ax ≠ I) (items : Array Value) :
    Walks prog w A I [I, ax] [I] items.size (fun i v => items[i]? = some v) (fun i h => h.IsListIter I ax i ∧ IsSeq h ax items) where
  sub := fun b hb => by simp at hb; simp [hb]
  frame := fun _ _ _ st hk => ⟨st.1.at fun o e => hk I (by simp) o e, st.2.at fun o e => hk ax (by simp) o e⟩
  item := fun i s Q E hi st hQ => by
    refine seq_next_item st.1 st.2 (x := items[i]) (by simp [hi]) fun h' hit' hs' => ?_
    exact hQ _ h' s.toks (by simp [hi]) ⟨hit', st.2.at fun o e => hs'.extBut _ o hne e⟩ fun b o hb e => hs'.extBut b o (fun h => hb (by simp [h])) e
  done := fun s Q E st hQ => seq_next_end hh st.1 st.2 (by simp) fun h' he' => hQ h' s.toks fun b o hb e => he' b o (fun h => hb (by simp [h])) e
  self := fun _ _ _ _ st hQ => wpAny_pyIter_listiter st.1 hQ
end
theorem all_n {P : Addr → Prop} : ∀ z ∈ ([] : List Addr), P z := fun _ m => nomatch m
theorem all_c {P : Addr → Prop} {a : Addr} {l : List Addr} (h : P a) (k : ∀ z ∈ l, P z) : ∀ z ∈ a :: l, P z := List.forall_mem_cons.mpr ⟨h, k⟩
section
variable {c : Cx} {A : Around} {tgt : Expr} {S : Sto} {a : St c S} {it : Itr} {l : List D} {n : Nat}
def Ct (a : St c S) (z : Addr) : Prop := (∃ o, a.s.heap.get? z = some o) ∧ z ∉ W a.G S ∧ z ∉ tabs ∧ (z ∈ a.wl → z ∈ gad a.G)
theorem ct_data {z : Addr} (h : z ∉ a.wl) (t : z ∉ tabs) (e : ∃ o, a.s.heap.get? z = some o) : Ct a z := ⟨e, fun m => h (a.good.wsub z m), t, fun m => (h m).elim⟩
theorem ItAt.make {Z : List Addr} {h' : Heap} {tk : Nat} {k hn} (turns : KTurns pw c.w A tgt it.I it.fp Z l.length it.P it.Md it.St) (hwr : it.wr = Z) (st : it.St 0 h') (self : ∀ (s' : Shared) (Q : Value → Shared → Prop), it.St 0 s'.heap → Q (.ref it.I) s' → wpAny (model pw c.w) A (pyIter (.ref it.I)) Q noE s')
    (fp : ∀ z ∈ it.fp, z ∈ Z ∨ (a.s.heap.objs.size ≤ z ∧ ∃ o, h'.get? z = some o) ∨ Ct a z) (live : ∀ i h, it.St i h → ∀ b ∈ Z, ∃ o, h.get? b = some o) (item : ∀ {X : List Addr} {S' : Sto} (b : St c S') (i : Nat) (v : Value) (d : D), To X a b ∨ To X (a.adopt Z h' tk k hn) b → it.P i v b.s.heap → l[i]? = some d → Item tgt b v d) : ItAt A tgt (a.adopt Z h' tk k hn) it l := by
  subst hwr
  have new : ∀ z, a.s.heap.objs.size ≤ z → z ∉ W a.G S ∧ z ∉ tabs ∧ z ∉ a.wl ∧ z ∉ gad a.G := fun z h => have f := a.good.fresh h; ⟨fun m => f.2.2.2 (a.good.wsub z m), f.2.2.1, f.2.2.2, fun m => f.2.2.2 (a.good.own z m)⟩
  refine ⟨turns, st, self, fun z m => ?_, fun z m => ⟨List.mem_append_left _ m, (new z (hn z m).1).2.2.2⟩, live, fun b i v d t => item b i v d (.inr t)⟩
  by_cases hz : z ∈ it.wr
  · exact ⟨(hn z hz).2, (new z (hn z hz).1).1, (new z (hn z hz).1).2.1, fun _ => .inl hz⟩
  · rcases fp z m with q | q | q
    · exact (hz q).elim
    · exact ⟨q.2, (new z q.1).1, (new z q.1).2.1, fun w => ((List.mem_append.mp w).elim hz (new z q.1).2.2.1).elim⟩
    · exact ⟨let ⟨o, e⟩ := q.1; ⟨o, k z o e⟩, q.2.1, q.2.2.1, fun w => .inr (q.2.2.2 ((List.mem_append.mp w).resolve_left hz))⟩
abbrev seqIt (a : St c S) (ax : Addr) (vs : List Value) : Itr := ⟨a.s.heap.objs.size, [a.s.heap.objs.size, ax], [a.s.heap.objs.size], fun i v _ => vs.toArray[i]? = some v, fun i v h => vs.toArray[i]? = some v ∧ h.IsListIter a.s.heap.objs.size ax (i + 1) ∧ IsSeq h ax vs.toArray, fun i h => h.IsListIter a.s.heap.objs.size ax i ∧ IsSeq h ax vs.toArray⟩
theorem one_new (a : St c S) {ob : Obj} (hf : ob.isFreed = false) : ∀ z ∈ [a.s.heap.objs.size], a.s.heap.objs.size ≤ z ∧ ∃ o, (a.s.heap.push ob).get? z = some o := all_c ⟨Nat.le_refl _, _, Heap.get?_push_size _ hf⟩ all_n
def St.pushO (a : St c S) (ob : Obj) (tk : Nat) (hf : ob.isFreed = false) : St c S := a.adopt [a.s.heap.objs.size] (a.s.heap.push ob) tk (fun _ _ e => Heap.get?_push_of_some _ e) (one_new a hf)
theorem St.pushO_to (a : St c S) {ob : Obj} {tk : Nat} {hf : ob.isFreed = false} : To [] a (a.pushO ob tk hf) := a.adopt_to
theorem at_vs {vs : List Value} {S' : Sto} {b : St c S'} {X : List Addr} (hv : a.vs vs l) (t : To X a b) {i : Nat} {v : Value} {d : D} (hp : vs.toArray[i]? = some v) (hd : l[i]? = some d) : b.v v d :=
  All2.at_ (t.vs hv) hd (by simpa using hp)
theorem at_seq (room : Room n A) {ax : Addr} {vs : List Value} (hl : IsSeq a.s.heap ax vs.toArray) (hv : a.vs vs l) (ct : Ct a ax) : ItAt A tgt (a.pushO { cls := .type "list_iterator", data := .fields #[.ref ax, .int 0 0] } a.s.toks rfl) (seqIt a ax vs) l := by
  have hne : ax ≠ a.s.heap.objs.size := lt_of_some hl.choose_spec.1
  have hsz : vs.toArray.size = l.length := by simpa using hv.length
  exact ItAt.make (hsz ▸ KTurns.ofWalks (walks_seq room.hd a.s.heap.objs.size ax hne vs.toArray) fun i v s Q E st q => letGo_listiter st.1 q) rfl ⟨⟨_, Heap.get?_push_size _ rfl, rfl, rfl⟩, hl.at fun o e => Heap.get?_push_of_some _ e⟩
    (fun s' Q st q => wpAny_pyIter_listiter st.1 q) (all_c (.inl (.head _)) (all_c (.inr (.inr ct)) all_n)) (fun i h st => all_c (let ⟨o, e, _⟩ := st.1; ⟨o, e⟩) all_n) fun b i v d t hp hd => V.item (t.elim (fun t => at_vs hv t hp hd) fun t => at_vs (St.adopt_to a |>.vs hv) t hp hd)
theorem at_tup (room : Room n A) {ax : Addr} {vs : List Value} (hl : a.s.heap.IsTuple ax vs.toArray) (hv : a.vs vs l) (ct : Ct a ax) : ItAt A tgt (a.pushO { cls := .type "tuple_iterator", data := .fields #[.ref ax, .int 0 0] } a.s.toks rfl) ⟨a.s.heap.objs.size, [a.s.heap.objs.size, ax], [a.s.heap.objs.size], fun i v _ => vs.toArray[i]? = some v, fun i v h => vs.toArray[i]? = some v ∧ h.IsTupleIter a.s.heap.objs.size ax (i + 1) ∧ h.IsTuple ax vs.toArray, fun i h => h.IsTupleIter a.s.heap.objs.size ax i ∧ h.IsTuple ax vs.toArray⟩ l := by
  have hne : ax ≠ a.s.heap.objs.size := lt_of_some hl.choose_spec.1
  have hsz : vs.toArray.size = l.length := by simpa using hv.length
  exact ItAt.make (hsz ▸ KTurns.ofWalks (Walks.tuple room.hd a.s.heap.objs.size ax hne vs.toArray) fun i v s Q E st q => letGo_tupleiter st.1 q) rfl ⟨⟨_, Heap.get?_push_size _ rfl, rfl, rfl⟩, hl.push _⟩
    (fun s' Q st q => wpAny_pyIter_tupleiter st.1 q) (all_c (.inl (.head _)) (all_c (.inr (.inr ct)) all_n)) (fun i h st => all_c (let ⟨o, e, _⟩ := st.1; ⟨o, e⟩) all_n) fun b i v d t hp hd => V.item (t.elim (fun t => at_vs hv t hp hd) fun t => at_vs (St.adopt_to a |>.vs hv) t hp hd)
end
abbrev IsTri (h : Heap) (T : Addr) (a b d : Value) : Prop := h.get? T = some { cls := .type "tuple", data := .seq #[a, b, d] }
structure Z3 (z TI TO i1 i2 i3 l1 l2 l3 : Addr) : Prop where
  nd : [z, TI, TO, i1, i2, i3].Nodup
  n1 : l1 ∉ [z, TO, i1, i2, i3]
  n2 : l2 ∉ [z, TO, i1, i2, i3]
  n3 : l3 ∉ [z, TO, i1, i2, i3]
section
variable {prog : Program} {w : World} {A : Around} {E : Value → Shared → Prop} {s : Shared}
theorem updateTri {T : Addr} {a b d x : Value} {k : Nat} {Q : Unit → Shared → Prop} (hT : IsTri s.heap T a b d)
    (h : ∀ h', h'.get? T = some { cls := .type "tuple", data := .seq ((#[a, b, d] : Array Value).setIfInBounds k x) } → Heap.SameBut T s.heap h' → Q () { s with heap := h' }) :
    wpAny (model prog w) A (updateSeq T (·.setIfInBounds k x)) Q E s := by
  refine wpAny_updateSeq hT rfl (h _ ?_ (Heap.SameBut.update ..))
  rw [Heap.get?_update_self _ hT rfl]
  simp [Obj.mapSeq]
structure ZSt (h : Heap) (z TI TO i1 i2 i3 l1 l2 l3 : Addr) (xs ys us : Array Value) (k : Nat) : Prop where
  ti : IsTri h TI (.ref i1) (.ref i2) (.ref i3)
  to : ∃ a b d, IsTri h TO a b d
  h1 : h.IsListIter i1 l1 k
  h2 : h.IsListIter i2 l2 k
  h3 : h.IsListIter i3 l3 k
  l1 : h.IsList l1 xs
  l2 : h.IsList l2 ys
  l3 : h.IsList l3 us
set_option maxHeartbeats 1000000 in
theorem zip3_item {z TI TO i1 i2 i3 l1 l2 l3 : Addr} {k : Nat} {xs ys us : Array Value} {x y u : Value} {Q : Value → Shared → Prop} (D : Z3 z TI TO i1 i2 i3 l1 l2 l3)
    (hz : IsZip s.heap z TI TO .none) (st : ZSt s.heap z TI TO i1 i2 i3 l1 l2 l3 xs ys us k) (hx : xs[k]? = some x) (hy : ys[k]? = some y) (hu : us[k]? = some u)
    (hQ : ∀ h', IsZip h' z TI TO (rawInt s.heap.objs.size) → ZSt h' z TI TO i1 i2 i3 l1 l2 l3 xs ys us (k + 1) → IsTri h' s.heap.objs.size x y u →
      (∀ c o, c ∉ [z, TO, i1, i2, i3] → s.heap.get? c = some o → h'.get? c = some o) → Q (.ref s.heap.objs.size) { s with heap := h' }) :
    wpAny (model prog w) A (Builtin.«zip.__next__» ⟨[.ref z], []⟩) (fun fin s' => ∃ v, fin = .done (.ret v) ∧ Q v s') E s := by
  obtain ⟨hTI, ⟨a, b, d, hTO⟩, h1, h2, h3, hl1, hl2, hl3⟩ := st
  have nd := D.nd
  have n1 := D.n1
  have n2 := D.n2
  have n3 := D.n3
  simp only [List.nodup_cons, List.mem_cons, List.not_mem_nil, or_false, not_or, not_false_eq_true, List.nodup_nil, and_true] at nd n1 n2 n3
  obtain ⟨⟨zTI, zTO, z1, z2, z3⟩, ⟨TITO, TI1, TI2, TI3⟩, ⟨TO1, TO2, TO3⟩, ⟨i12, i13⟩, i23⟩ := nd
  show wpAny _ _ (field (.ref z) 2 >>= _) _ _ _
  refine wpAny_bind (wpAny_field hz rfl (x := .bool false) rfl ?_)
  show wpAny _ _ (field (.ref z) 3 >>= _) _ _ _
  refine wpAny_bind (wpAny_field hz rfl (x := .ref TI) rfl ?_)
  refine wpAny_bind (wpAny_seqItems hTI rfl ?_)
  show wpAny _ _ (Builtin.SmallTypes.ownedTupleIsFree (.ref z) >>= _) _ _ _
  refine wpAny_bind ?_
  unfold Builtin.SmallTypes.ownedTupleIsFree
  refine wpAny_bind (wpAny_field hz rfl (x := .none) rfl (wpAny_pure ?_))
  simp only [if_true]
  refine wpAny_bind (wpAny_rule ?_)
  refine wpAny_bind (wpAny_field hz rfl (x := .ref TO) rfl ?_)
  refine wpAny_bind (wpAny_setField_rec hz (by simp) fun h₁ hz₁ hs₁ => ?_)
  replace hz₁ : IsZip h₁ z TI TO .ellipsis := hz₁
  refine wpAny_bind ?_
  simp only [List.zipIdx_cons, List.zipIdx_nil, List.forIn_cons, List.forIn_nil]
  refine wpAny_bind (wpAny_bind (wpAny_onRaise ?_))
  show wpAny _ _ (Builtin.SmallTypes.nextOf (.ref i1) >>= _) _ _ _
  refine wpAny_bind (wpAny_nextOf_list_item (h1.extBut hs₁.extBut (Ne.symm z1)) (hl1.extBut hs₁.extBut n1.1) hx fun h₂ h1₂ hs₂ => wpAny_pure ?_)
  have hTO₂ : IsTri h₂ TO a b d := hs₂.extBut _ _ TO1 (hs₁.extBut _ _ (Ne.symm zTO) hTO)
  refine wpAny_bind (wpAny_seqItems hTO₂ rfl ?_)
  refine wpAny_bind (updateTri hTO₂ fun h₃ hTO₃ hs₃ => ?_)
  replace hTO₃ : IsTri h₃ TO x b d := hTO₃
  refine wpAny_bind (wpAny_letGo (wpAny_pure ?_))
  have k3 : ∀ c o, c ∉ [z, TO, i1] → s.heap.get? c = some o → h₃.get? c = some o := fun c o hc e => by
    simp only [List.mem_cons, List.not_mem_nil, or_false, not_or] at hc
    exact hs₃.extBut _ _ hc.2.1 (hs₂.extBut _ _ hc.2.2 (hs₁.extBut _ _ hc.1 e))
  refine wpAny_bind (wpAny_bind (wpAny_onRaise ?_))
  show wpAny _ _ (Builtin.SmallTypes.nextOf (.ref i2) >>= _) _ _ _
  refine wpAny_bind (wpAny_nextOf_list_item (h2.at fun o e => k3 _ o (by simp; exact ⟨Ne.symm z2, Ne.symm TO2, Ne.symm i12⟩) e) (hl2.at fun o e => k3 _ o (by simp; exact ⟨n2.1, n2.2.1, n2.2.2.1⟩) e) hy fun h₄ h2₄ hs₄ => wpAny_pure ?_)
  have hTO₄ : IsTri h₄ TO x b d := hs₄.extBut _ _ TO2 hTO₃
  refine wpAny_bind (wpAny_seqItems hTO₄ rfl ?_)
  refine wpAny_bind (updateTri hTO₄ fun h₅ hTO₅ hs₅ => ?_)
  replace hTO₅ : IsTri h₅ TO x y d := hTO₅
  refine wpAny_bind (wpAny_letGo (wpAny_pure ?_))
  have k5 : ∀ c o, c ∉ [z, TO, i1, i2] → s.heap.get? c = some o → h₅.get? c = some o := fun c o hc e => by
    simp only [List.mem_cons, List.not_mem_nil, or_false, not_or] at hc
    exact hs₅.extBut _ _ hc.2.1 (hs₄.extBut _ _ hc.2.2.2 (k3 _ _ (by simp; exact ⟨hc.1, hc.2.1, hc.2.2.1⟩) e))
  refine wpAny_bind (wpAny_bind (wpAny_onRaise ?_))
  show wpAny _ _ (Builtin.SmallTypes.nextOf (.ref i3) >>= _) _ _ _
  refine wpAny_bind (wpAny_nextOf_list_item (h3.at fun o e => k5 _ o (by simp; exact ⟨Ne.symm z3, Ne.symm TO3, Ne.symm i13, Ne.symm i23⟩) e) (hl3.at fun o e => k5 _ o (by simp; exact ⟨n3.1, n3.2.1, n3.2.2.1, n3.2.2.2.1⟩) e) hu fun h₆ h3₆ hs₆ => wpAny_pure ?_)
  have hTO₆ : IsTri h₆ TO x y d := hs₆.extBut _ _ TO3 hTO₅
  refine wpAny_bind (wpAny_seqItems hTO₆ rfl ?_)
  refine wpAny_bind (updateTri hTO₆ fun h₇ hTO₇ hs₇ => ?_)
  replace hTO₇ : IsTri h₇ TO x y u := hTO₇
  refine wpAny_bind (wpAny_letGo (wpAny_pure (wpAny_pure ?_)))
  have k7 : ∀ c o, c ∉ [z, TO, i1, i2, i3] → s.heap.get? c = some o → h₇.get? c = some o := fun c o hc e => by
    simp only [List.mem_cons, List.not_mem_nil, or_false, not_or] at hc
    exact hs₇.extBut _ _ hc.2.1 (hs₆.extBut _ _ hc.2.2.2.2 (k5 _ _ (by simp; exact ⟨hc.1, hc.2.1, hc.2.2.1, hc.2.2.2.1⟩) e))
  refine wpAny_bind (wpAny_seqItems hTO₇ rfl ?_)
  refine wpAny_bind (wpAny_newTuple ?_)
  have hsz : h₇.objs.size = s.heap.objs.size := by rw [hs₇.1, hs₆.1, hs₅.1, hs₄.1, hs₃.1, hs₂.1, hs₁.1]
  have hz₇ : IsZip h₇ z TI TO .ellipsis := hs₇.extBut _ _ zTO (hs₆.extBut _ _ z3 (hs₅.extBut _ _ zTO (hs₄.extBut _ _ z2 (hs₃.extBut _ _ zTO (hs₂.extBut _ _ z1 hz₁)))))
  have g1 : h₇.IsListIter i1 l1 (k + 1) := ((((h1₂.extBut hs₃.extBut (Ne.symm TO1)).extBut hs₄.extBut i12).extBut hs₅.extBut (Ne.symm TO1)).extBut hs₆.extBut i13).extBut hs₇.extBut (Ne.symm TO1)
  have g2 : h₇.IsListIter i2 l2 (k + 1) := ((h2₄.extBut hs₅.extBut (Ne.symm TO2)).extBut hs₆.extBut i23).extBut hs₇.extBut (Ne.symm TO2)
  have g3 : h₇.IsListIter i3 l3 (k + 1) := h3₆.extBut hs₇.extBut (Ne.symm TO3)
  have hzlt : z < h₇.objs.size := Heap.lt_size hz₇
  show wpAny _ _ (Builtin.SmallTypes.ownedTupleHandOut (.ref z) (.ref h₇.objs.size) >>= _) _ _ _
  refine wpAny_bind ?_
  unfold Builtin.SmallTypes.ownedTupleHandOut
  have hz₈ : IsZip (h₇.push { cls := .type "tuple", data := .seq #[x, y, u] }) z TI TO .ellipsis := Heap.get?_push_of_some _ hz₇
  refine wpAny_bind (wpAny_setField_rec hz₈ (by simp) fun h₉ hz₉ hs₉ => ?_)
  replace hz₉ : IsZip h₉ z TI TO (rawInt h₇.objs.size) := hz₉
  refine wpAny_setField_rec hz₉ (by simp) fun hA hzA hsA => ?_
  replace hzA : IsZip hA z TI TO (rawInt h₇.objs.size) := hzA
  have up : ∀ c o, c ≠ z → h₇.get? c = some o → hA.get? c = some o := fun c o c1 e => hsA.extBut _ _ c1 (hs₉.extBut _ _ c1 (Heap.get?_push_of_some _ e))
  have hT : IsTri hA h₇.objs.size x y u := hsA.extBut _ _ (Nat.ne_of_gt hzlt) (hs₉.extBut _ _ (Nat.ne_of_gt hzlt) (Heap.get?_push_size _ rfl))
  rw [hsz] at hzA hT
  refine wpAny_pure ⟨_, rfl, ?_⟩
  show Q (.ref h₇.objs.size) _
  rw [hsz]
  have kA : ∀ c o, c ∉ [z, TO, i1, i2, i3] → s.heap.get? c = some o → hA.get? c = some o := fun c o hc e => up c o (fun q => hc (by rw [q]; exact .head _)) (k7 c o hc e)
  refine hQ hA hzA ⟨kA _ _ (by simp; exact ⟨Ne.symm zTI, TITO, TI1, TI2, TI3⟩) hTI, ⟨_, _, _, up _ _ (Ne.symm zTO) hTO₇⟩, g1.at fun o e => up _ o (Ne.symm z1) e, g2.at fun o e => up _ o (Ne.symm z2) e, g3.at fun o e => up _ o (Ne.symm z3) e,
    hl1.at fun o e => kA _ o D.n1 e, hl2.at fun o e => kA _ o D.n2 e, hl3.at fun o e => kA _ o D.n3 e⟩ hT kA
theorem zip3_end {z TI TO i1 i2 i3 l1 l2 l3 : Addr} {k : Nat} {xs ys us : Array Value} {Q : PySem.Fin → Shared → Prop} (hh : A.handled = none) (D : Z3 z TI TO i1 i2 i3 l1 l2 l3)
    (hz : IsZip s.heap z TI TO .none) (st : ZSt s.heap z TI TO i1 i2 i3 l1 l2 l3 xs ys us k) (hx : xs[k]? = none)
    (hE : ∀ h' e, (∀ c o, c ∉ [z, TO, i1, i2, i3] → s.heap.get? c = some o → h'.get? c = some o) → (∃ o, h'.get? e = some o ∧ o.cls = .type "StopIteration") → E (.ref e) { s with heap := h' }) :
    wpAny (model prog w) A (Builtin.«zip.__next__» ⟨[.ref z], []⟩) Q E s := by
  obtain ⟨hTI, ⟨a, b, d, hTO⟩, h1, h2, h3, hl1, hl2, hl3⟩ := st
  have nd := D.nd
  have n1 := D.n1
  simp only [List.nodup_cons, List.mem_cons, List.not_mem_nil, or_false, not_or, not_false_eq_true, List.nodup_nil, and_true] at nd n1
  obtain ⟨⟨zTI, zTO, z1, z2, z3⟩, _⟩ := nd
  show wpAny _ _ (field (.ref z) 2 >>= _) _ _ _
  refine wpAny_bind (wpAny_field hz rfl (x := .bool false) rfl ?_)
  show wpAny _ _ (field (.ref z) 3 >>= _) _ _ _
  refine wpAny_bind (wpAny_field hz rfl (x := .ref TI) rfl ?_)
  refine wpAny_bind (wpAny_seqItems hTI rfl ?_)
  show wpAny _ _ (Builtin.SmallTypes.ownedTupleIsFree (.ref z) >>= _) _ _ _
  refine wpAny_bind ?_
  unfold Builtin.SmallTypes.ownedTupleIsFree
  refine wpAny_bind (wpAny_field hz rfl (x := .none) rfl (wpAny_pure ?_))
  simp only [if_true]
  refine wpAny_bind (wpAny_rule ?_)
  refine wpAny_bind (wpAny_field hz rfl (x := .ref TO) rfl ?_)
  refine wpAny_bind (wpAny_setField_rec hz (by simp) fun h₁ hz₁ hs₁ => ?_)
  replace hz₁ : IsZip h₁ z TI TO .ellipsis := hz₁
  refine wpAny_bind ?_
  simp only [List.zipIdx_cons, List.zipIdx_nil, List.forIn_cons, List.forIn_nil]
  refine wpAny_bind (wpAny_bind (wpAny_onRaise ?_))
  show wpAny _ _ (Builtin.SmallTypes.nextOf (.ref i1) >>= _) _ _ _
  refine wpAny_bind (wpAny_nextOf_list_end hh (h1.extBut hs₁.extBut (Ne.symm z1)) (hl1.extBut hs₁.extBut n1.1) hx fun h₂ e hs₂ he => ?_)
  obtain ⟨oe, hoe, hce⟩ := he
  have hz₂ : IsZip h₂ z TI TO .ellipsis := hs₂ _ _ z1 hz₁
  have hez : e ≠ z := fun x => by subst x; rw [hz₂] at hoe; cases hoe; simp at hce
  refine wpAny_setField_rec hz₂ (by simp) fun h₃ _ hs₃ => hE h₃ e (fun c o hc x => ?_) ⟨oe, hs₃.extBut _ _ hez hoe, hce⟩
  simp only [List.mem_cons, List.not_mem_nil, or_false, not_or] at hc
  exact hs₃.extBut _ _ hc.1 (hs₂ _ _ hc.2.2.1 (hs₁.extBut _ _ hc.1 x))
theorem ZSt.keep {h h' : Heap} {z TI TO i1 i2 i3 l1 l2 l3 : Addr} {xs ys us : Array Value} {k : Nat} (st : ZSt h z TI TO i1 i2 i3 l1 l2 l3 xs ys us k) (hk : ∀ c ∈ [TI, TO, i1, i2, i3, l1, l2, l3], ∀ o, h.get? c = some o → h'.get? c = some o) : ZSt h' z TI TO i1 i2 i3 l1 l2 l3 xs ys us k := by
  obtain ⟨hTI, ⟨a, b, d, hTO⟩, h1, h2, h3, hl1, hl2, hl3⟩ := st
  exact ⟨hk _ (by simp) _ hTI, ⟨a, b, d, hk _ (by simp) _ hTO⟩, h1.at (hk _ (by simp)), h2.at (hk _ (by simp)), h3.at (hk _ (by simp)), hl1.at (hk _ (by simp)), hl2.at (hk _ (by simp)), hl3.at (hk _ (by simp))⟩
theorem WalksT.zip3 (hh : A.handled = none) (z TI TO i1 i2 i3 l1 l2 l3 : Addr) (D : Z3 z TI TO i1 i2 i3 l1 l2 l3) (xs ys us : Array Value) (e1 : ys.size = xs.size) (e2 : us.size = xs.size) :
    WalksT prog w A z [z, TI, TO, i1, i2, i3, l1, l2, l3] [z, TO, i1, i2, i3] xs.size
      (fun i vals => ∃ x y u, xs[i]? = some x ∧ ys[i]? = some y ∧ us[i]? = some u ∧ vals = #[x, y, u])
      (fun i h => IsZip h z TI TO .none ∧ ZSt h z TI TO i1 i2 i3 l1 l2 l3 xs ys us i)
      (fun i T h => IsZip h z TI TO (rawInt T) ∧ ZSt h z TI TO i1 i2 i3 l1 l2 l3 xs ys us (i + 1) ∧ T ∉ [z, TO, i1, i2, i3]) where
  sub := fun c hc => by simp only [List.mem_cons, List.not_mem_nil, or_false] at hc ⊢; rcases hc with rfl | rfl | rfl | rfl | rfl <;> simp
  frame := fun i h h' hst hk => ⟨hk z (by simp) _ hst.1, hst.2.keep fun c hc o e => hk c (.tail _ hc) o e⟩
  item := fun i s Q E hi hst hQ => by
    obtain ⟨hz, st⟩ := hst
    have hiy : i < ys.size := by omega
    have hiu : i < us.size := by omega
    have hT : s.TypeIs (.ref z) "zip" := ⟨_, hz, rfl⟩
    unfold pyNext
    refine wpAny_bind (wpAny_attempt (wpAny_callSpecial?_slot (name := Str.ofString "__next__") hT F.slot_zip_next
      (wpAny_call_entry F.slot_zip_next hT F.entry_zip_next (zip3_item D hz st (Array.getElem?_eq_getElem hi) (Array.getElem?_eq_getElem hiy) (Array.getElem?_eq_getElem hiu) fun h' a1 a2 a3 hk => wpAny_pure ?_) (F.args_zip_next_1 _))))
    refine hQ s.heap.objs.size #[xs[i], ys[i], us[i]] h' s.toks ⟨_, _, _, Array.getElem?_eq_getElem hi, Array.getElem?_eq_getElem hiy, Array.getElem?_eq_getElem hiu, rfl⟩ (Nat.le_refl _) ⟨_, a3, rfl, _, rfl⟩ ⟨a1, a2, fun m => ?_⟩ hk
    have lt : ∀ {c o}, s.heap.get? c = some o → s.heap.objs.size ≠ c := fun e => Nat.ne_of_gt (Heap.lt_size e)
    obtain ⟨_, ⟨_, _, _, hTO⟩, ⟨_, g1, _⟩, ⟨_, g2, _⟩, ⟨_, g3, _⟩, _⟩ := st
    simp only [List.mem_cons, List.not_mem_nil, or_false] at m
    rcases m with m | m | m | m | m
    · exact lt hz m
    · exact lt hTO m
    · exact lt g1 m
    · exact lt g2 m
    · exact lt g3 m
  go := fun elts k pos i T s Q E hm hQ => by
    obtain ⟨hz, st, _⟩ := hm
    have nd := D.nd
    have n1 := D.n1
    have n2 := D.n2
    have n3 := D.n3
    simp only [List.nodup_cons, List.mem_cons, List.not_mem_nil, or_false, not_or, not_false_eq_true, List.nodup_nil, and_true] at nd n1 n2 n3
    refine wpAny_letOwnedTupleGo_zip hz fun h' hz' hs' => hQ h' ⟨hz', st.keep fun c hc o e => hs'.extBut _ _ (fun q => ?_) e⟩ fun c o hc e => hs'.extBut _ _ (fun x => hc (by simp [x])) e
    simp only [List.mem_cons, List.not_mem_nil, or_false] at hc
    rcases hc with rfl | rfl | rfl | rfl | rfl | rfl | rfl | rfl
    · exact nd.1.1 q.symm
    · exact nd.1.2.1 q.symm
    · exact nd.1.2.2.1 q.symm
    · exact nd.1.2.2.2.1 q.symm
    · exact nd.1.2.2.2.2 q.symm
    · exact n1.1 q
    · exact n2.1 q
    · exact n3.1 q
  apart := fun i T h hm => hm.2.2
  done := fun s Q E hst hQ => by
    obtain ⟨hz, st⟩ := hst
    have hT : s.TypeIs (.ref z) "zip" := ⟨_, hz, rfl⟩
    unfold pyNext
    refine wpAny_bind (wpAny_attempt (wpAny_callSpecial?_slot (name := Str.ofString "__next__") hT F.slot_zip_next
      (wpAny_call_entry F.slot_zip_next hT F.entry_zip_next (zip3_end hh D hz st (Array.getElem?_eq_none (Nat.le_refl _)) fun h' e hk he => ?_) (F.args_zip_next_1 _))))
    obtain ⟨o, ho, hc⟩ := he
    refine wpAny_bind (wpAny_isInstance (T := "StopIteration") (b := true) ⟨o, ho, hc⟩ isSubtype_stop ?_)
    exact wpAny_pure (hQ h' s.toks hk)
  self := fun i s Q E hst hQ => wpAny_pyIter_zip hst.1 hQ
end
open Sem (wp)
noncomputable section
theorem typeCall_zip3 (a b d : Value) : checkTypeCall "zip" ⟨[a, b, d], []⟩ = pure () := by kernel_rfl
theorem newCall_zip3 (a b d : Value) : checkBuiltinCall "zip.__new__" ⟨[.type "zip", a, b, d], []⟩ = pure () := by kernel_rfl
theorem args_init4 (a b c d : Value) : argsOk "object.__init__" ⟨[a, b, c, d], []⟩ := by
  unfold argsOk; rw [signature?_of (id := "object.__init__") (n := ['_', '_', 't', 'i', 'n', 'i', '_', '_']) (o := ['t', 'c', 'e', 'j', 'b', 'o']) (by kernel_rfl) F.owner_object]; kernel_rfl
abbrev z3H1 (h : Heap) (l1 : Addr) : Heap := h.push { cls := .type "list_iterator", data := .fields #[.ref l1, .int 0 0] }
abbrev z3H2 (h : Heap) (l1 l2 : Addr) : Heap := (z3H1 h l1).push { cls := .type "list_iterator", data := .fields #[.ref l2, .int 0 0] }
abbrev z3H3 (h : Heap) (l1 l2 l3 : Addr) : Heap := (z3H2 h l1 l2).push { cls := .type "list_iterator", data := .fields #[.ref l3, .int 0 0] }
abbrev z3H4 (h : Heap) (l1 l2 l3 : Addr) : Heap := (z3H3 h l1 l2 l3).push { cls := .type "tuple", data := .seq #[.ref h.objs.size, .ref (z3H1 h l1).objs.size, .ref (z3H2 h l1 l2).objs.size] }
abbrev z3H5 (h : Heap) (l1 l2 l3 : Addr) : Heap := (z3H4 h l1 l2 l3).push { cls := .type "tuple", data := .seq #[.none, .none, .none] }
abbrev z3H6 (h : Heap) (l1 l2 l3 : Addr) : Heap := (z3H5 h l1 l2 l3).push { cls := .type "zip", data := .fields #[.none, .bool false, .bool false, .ref (z3H3 h l1 l2 l3).objs.size, .ref (z3H4 h l1 l2 l3).objs.size] }
set_option maxHeartbeats 2000000 in
theorem meets_zip3 (l1 l2 l3 : Addr) (xs ys us : Array Value) :
    Meets (Builtin.«zip.__new__» ⟨[.type "zip", .ref l1, .ref l2, .ref l3], []⟩) (fun _ R s => s.heap.IsList l1 xs ∧ s.heap.IsList l2 ys ∧ s.heap.IsList l3 us ∧
      R (.ok (.ret (.ref (z3H5 s.heap l1 l2 l3).objs.size))) { s with heap := z3H6 s.heap l1 l2 l3 }) :=
  .of_wp fun prog w A R s h => by
    obtain ⟨hp, g, d, tk, os⟩ := s; obtain ⟨hl1, hl2, hl3, h⟩ := h
    have hsub := sub_zip
    have hL1 : Heap.IsList (Shared.heap ⟨hp, g, d, tk, os⟩) l1 xs := hl1
    have hL2 : Heap.IsList (Shared.heap ⟨hp.push { cls := .type "list_iterator", data := .fields #[.ref l1, .int 0 0] }, g, d, tk, os⟩) l2 ys := Heap.IsList.push hl2 _
    have hL3 : Heap.IsList (Shared.heap ⟨(hp.push { cls := .type "list_iterator", data := .fields #[.ref l1, .int 0 0] }).push { cls := .type "list_iterator", data := .fields #[.ref l2, .int 0 0] }, g, d, tk, os⟩) l3 us := Heap.IsList.push (Heap.IsList.push hl3 _) _
    wp_walk using wpAny_pyIter_list hL1, wpAny_pyIter_list hL2, wpAny_pyIter_list hL3
    exact ⟨_, rfl, h⟩
theorem call_zip3 {prog : Program} {w : World} {A : Around} {E : Value → Shared → Prop} {s : Shared} {l1 l2 l3 : Addr} {xs ys us : Array Value} {Q : Value → Shared → Prop} (hl1 : s.heap.IsList l1 xs) (hl2 : s.heap.IsList l2 ys) (hl3 : s.heap.IsList l3 us)
    (h : ∀ h', IsZip h' (s.heap.objs.size + 5) (s.heap.objs.size + 3) (s.heap.objs.size + 4) .none → ZSt h' (s.heap.objs.size + 5) (s.heap.objs.size + 3) (s.heap.objs.size + 4) s.heap.objs.size (s.heap.objs.size + 1) (s.heap.objs.size + 2) l1 l2 l3 xs ys us 0 →
      (∀ c o, s.heap.get? c = some o → h'.get? c = some o) → Q (.ref (s.heap.objs.size + 5)) { s with heap := h' }) :
    wpAny (model prog w) A (call (.type "zip") [.ref l1, .ref l2, .ref l3]) Q E s := by
  refine callType_new F.called_zip (by decide) (typeCall_zip3 _ _ _) (newCall_zip3 _ _ _) (fun obj => args_init4 obj _ _ _) F.entry_zip_new
    (meets_zip3 l1 l2 l3 xs ys us) ⟨hl1, hl2, hl3, ?_⟩
  have z1 : (z3H1 s.heap l1).objs.size = s.heap.objs.size + 1 := Heap.size_push ..
  have z2 : (z3H2 s.heap l1 l2).objs.size = s.heap.objs.size + 2 := by rw [Heap.size_push, z1]
  have z3 : (z3H3 s.heap l1 l2 l3).objs.size = s.heap.objs.size + 3 := by rw [Heap.size_push, z2]
  have z4 : (z3H4 s.heap l1 l2 l3).objs.size = s.heap.objs.size + 4 := by rw [Heap.size_push, z3]
  have z5 : (z3H5 s.heap l1 l2 l3).objs.size = s.heap.objs.size + 5 := by rw [Heap.size_push, z4]
  have up : ∀ {h : Heap} {c : Addr} {o o' : Obj}, h.get? c = some o → (h.push o').get? c = some o := fun e => Heap.get?_push_of_some _ e
  have g6 : (z3H6 s.heap l1 l2 l3).get? (z3H5 s.heap l1 l2 l3).objs.size = some _ := Heap.get?_push_size _ rfl
  have g5 : (z3H6 s.heap l1 l2 l3).get? (z3H4 s.heap l1 l2 l3).objs.size = some _ := up (Heap.get?_push_size _ rfl)
  have g4 : (z3H6 s.heap l1 l2 l3).get? (z3H3 s.heap l1 l2 l3).objs.size = some _ := up (up (Heap.get?_push_size _ rfl))
  have g3 : (z3H6 s.heap l1 l2 l3).get? (z3H2 s.heap l1 l2).objs.size = some _ := up (up (up (Heap.get?_push_size _ rfl)))
  have g2 : (z3H6 s.heap l1 l2 l3).get? (z3H1 s.heap l1).objs.size = some _ := up (up (up (up (Heap.get?_push_size _ rfl))))
  have g1 : (z3H6 s.heap l1 l2 l3).get? s.heap.objs.size = some _ := up (up (up (up (up (Heap.get?_push_size _ rfl)))))
  have kp : ∀ c o, s.heap.get? c = some o → (z3H6 s.heap l1 l2 l3).get? c = some o := fun c o x => up (up (up (up (up (up x)))))
  show _ ∧ _
  rw [z3, z4, z5] at g6
  rw [z4] at g5
  rw [z1, z2, z3] at g4
  rw [z2] at g3
  rw [z1] at g2
  rw [z5]
  exact ⟨⟨_, g6, rfl⟩, h _ g6 ⟨g4, ⟨_, _, _, g5⟩, ⟨_, g1, rfl, rfl⟩, ⟨_, g2, rfl, rfl⟩, ⟨_, g3, rfl, rfl⟩, hl1.at (kp _), hl2.at (kp _), hl3.at (kp _)⟩ kp⟩
end
theorem letGo_val {c : Cx} {A : Around} {tgt : Expr} {it v : Value} {s : Shared} {Q : Unit → Shared → Prop} {E : Value → Shared → Prop} (hv : ∀ a, v ≠ .ref a) (h : Q () s) : wpAny (model pw c.w) A (letOwnedTupleGo tgt it v) Q E s := by
  have key : letOwnedTupleGo (.List [] ⟨0, 0, 0, 0⟩) it v = pure () := by
    cases it with
    | ref _ => cases v with
      | ref a => exact (hv a rfl).elim
      | _ => rfl
    | _ => rfl
  have : letOwnedTupleGo tgt it v = pure () := by
    cases tgt with
    | Tuple _ _ _ => exact key
    | List _ _ => exact key
    | _ => rfl
  rw [this]
  exact wpAny_pure h
section
variable {c : Cx} {A : Around} {tgt : Expr} {S : Sto} {a : St c S} {l : List D} {n : Nat} {Q : Value → Shared → Prop}
theorem at_one {ob : Obj} {tk : Nat} {hf : ob.isFreed = false} {P : Nat → Value → Prop} {T : Nat → Heap → Prop} (room : Room n A) (W : Walks pw c.w A a.s.heap.objs.size [a.s.heap.objs.size] [a.s.heap.objs.size] l.length P T) (st0 : T 0 (a.s.heap.push ob)) (live : ∀ i h, T i h → ∃ o, h.get? a.s.heap.objs.size = some o)
    (pv : ∀ i v, P i v → ∀ a, v ≠ .ref a) (item : ∀ i v d wl h, P i v → l[i]? = some d → V wl h v d) : ItAt A tgt (a.pushO ob tk hf) ⟨a.s.heap.objs.size, [a.s.heap.objs.size], [a.s.heap.objs.size], fun i v _ => P i v, fun i v h => P i v ∧ T (i + 1) h, T⟩ l :=
  ItAt.make { sub := W.sub, frame := W.frame, item := fun i s Q E hi st hQ => W.item i s Q E hi st fun v h' tk hP st' hk => hQ v h' tk ⟨hP, st'⟩ hk, go := fun i v s Q E hm hQ => letGo_val (pv i v hm.1) (hQ s.heap hm.1 hm.2 fun _ _ _ e => e), done := W.done } rfl st0 (fun s' Q st q => W.self 0 s' Q noE st q)
    (all_c (.inl (.head _)) all_n) (fun i h st => all_c (live i h st) all_n) fun b i v d _ hp hd => V.item (item i v d _ _ hp hd)
abbrev IK (A : Around) (tgt : Expr) (a : St c S) (l : List D) (Q : Value → Shared → Prop) : Prop := ∀ (b : St c S) (it : Itr), To [] a b → ItAt A tgt b it l → (∀ z ∈ it.wr, a.s.heap.get? z = none) → Q (.ref it.I) b.s
theorem one_no (a : St c S) : ∀ z ∈ [a.s.heap.objs.size], a.s.heap.get? z = none := all_c (Heap.get?_none_of_le (Nat.le_refl _)) all_n
theorem signs_get {x : Str} {i : Nat} {v : Value} {d : D} {wl : List Addr} {h : Heap} (hp : ∃ c u, x.cps[i]? = some c ∧ v = .str ⟨#[c]⟩ u) (hd : (signs x)[i]? = some d) : V wl h v d := by
  obtain ⟨c, u, e, rfl⟩ := hp
  unfold signs at hd
  rw [List.getElem?_map, Array.getElem?_toList, e] at hd
  cases hd
  exact .str _ _
theorem signs_len (x : Str) : (signs x).length = x.cps.size := by simp [signs]
theorem at_str {x : Str} {tx : Tok} (room : Room n A) (h : IK A tgt a (signs x) Q) : wpAny (model pw c.w) A (pyIter (.str x tx)) Q noE a.s := by
  have pv : ∀ i v, SignAt x i v → ∀ a, v ≠ .ref a := fun i v hp a => by obtain ⟨c, u, _, rfl⟩ := hp; exact fun q => nomatch q
  cases ha : x.cps.all (· < 128)
  · exact wpAny_pyIter_wide ha (h _ _ a.pushO_to (at_one (tk := a.s.toks) (ob := { cls := .type "str_iterator", data := .fields #[.str x tx, .int 0 0] }) (hf := rfl) room (signs_len x ▸ Walks.strWide room.hd a.s.heap.objs.size x tx) ⟨_, Heap.get?_push_size _ rfl, rfl, rfl⟩ (fun i h st => let ⟨o, e, _⟩ := st; ⟨o, e⟩) pv fun i v d wl h => signs_get) (one_no a))
  · exact wpAny_pyIter_ascii ha (h _ _ a.pushO_to (at_one (tk := a.s.toks) (ob := { cls := .type "str_ascii_iterator", data := .fields #[.str x tx, .int 0 0] }) (hf := rfl) room (signs_len x ▸ Walks.strAscii room.hd a.s.heap.objs.size x tx) ⟨_, Heap.get?_push_size _ rfl, rfl, rfl⟩ (fun i h st => let ⟨o, e, _⟩ := st; ⟨o, e⟩) pv fun i v d wl h => signs_get) (one_no a))
theorem range_get {k : Int} {i : Nat} {d : D} (hd : (rangeD k)[i]? = some d) : d = .int i := by
  unfold rangeD at hd
  rw [List.getElem?_map] at hd
  obtain ⟨j, hj, rfl⟩ := ms hd
  have := (List.getElem?_eq_some_iff.mp hj).2
  rw [List.getElem_range] at this
  rw [this]
theorem at_range {k : Int} {tt : Tok} (h0 : 0 ≤ k) (h1 : k ≤ 4096) (room : Room n A) (h : IK A tgt a (rangeD k) Q) : wpAny (model pw c.w) A (call (.type "range") [.int k tt]) (fun xv s1 => wpAny (model pw c.w) A (pyIter xv) Q noE s1) noE a.s := by
  refine call_range_1 ?_
  refine wpAny_pyIter_range (IsRange.new ..) (small_one (by decide) (by decide) (by omega) (by omega)) ?_
  have hl : (rangeD k).length = k.toNat := by simp [rangeD]
  have hsz : Builtin.Range.rangeSize 0 k 1 = ((rangeD k).length : Int) := by rw [rangeSize_one, hl]; split <;> omega
  rw [hsz]
  let a1 := a.push { cls := .type "range", data := .fields #[.int 0 a.s.toks, .int k tt, .int 1 (a.s.toks + 1)] } (a.s.toks + 1 + 1)
  have t1 : To [] a a1 := a.push_to
  have st0 : IsRangeIter (a1.s.heap.push { cls := .type "range_iterator", data := .fields #[rawInt 0, rawInt ((rangeD k).length : Int), rawInt 1] }) a1.s.heap.objs.size (0 + ((0 : Nat) : Int) * 1) (((rangeD k).length : Int) - ((0 : Nat) : Int)) 1 := by
    rw [show (0 + ((0 : Nat) : Int) * 1) = 0 from rfl, show (((rangeD k).length : Int) - ((0 : Nat) : Int)) = ((rangeD k).length : Int) from Int.sub_zero _]
    exact Heap.get?_push_size _ rfl
  refine h _ _ (t1.trans a1.pushO_to) (at_one (a := a1) (tk := a.s.toks + 1 + 1) (hf := rfl) room (Walks.range room.hd _ 0 1 (rangeD k).length) st0 (fun i h st => ⟨_, st⟩) (fun i v hp a => by obtain ⟨t, rfl⟩ := hp; exact fun q => nomatch q) fun i v d wl h hp hd => ?_) fun z m => t1.back (a1.good.fresh ?_).2.2.1 (one_no a1 z m)
  · obtain ⟨t, rfl⟩ := hp
    rw [range_get hd, show (0 + (i : Int) * 1) = (i : Int) by omega]
    exact .int _ _
  · rw [List.mem_singleton.mp m]; exact Nat.le_refl _
end
theorem enumD_get {l : List D} {k i : Nat} {d : D} (h : (enumD k l)[i]? = some d) : ∃ a, l[i]? = some a ∧ d = .tuple [.int ((k + i : Nat) : Int), a] := by
  induction l generalizing k i with
  | nil => cases h
  | cons a l ih =>
    cases i with
    | zero => cases h; exact ⟨a, rfl, rfl⟩
    | succ i =>
      obtain ⟨a', e1, e2⟩ := ih (k := k + 1) (i := i) h
      exact ⟨a', e1, by rw [e2, Nat.add_right_comm]; rfl⟩
theorem enumD_len {l : List D} {k : Nat} : (enumD k l).length = l.length := by
  induction l generalizing k with
  | nil => rfl
  | cons a l ih => exact congrArg Nat.succ ih
theorem to_get {α : Type} {l : List α} {i : Nat} {x : α} (h : l.toArray[i]? = some x) : l[i]? = some x := by simpa using h
section
variable {c : Cx} {A : Around} {S : Sto} {a : St c S} {n : Nat} {Q : Value → Shared → Prop} {es : List Expr} {k : Nat} {pos : Pos} {u v w : Value} {l m q : List D}
theorem lst_ct {b : Addr} {vs : List Value} (h : b ∉ a.wl) (t : b ∉ tabs) (il : a.s.heap.IsList b vs.toArray) : Ct a b := ct_data h t (let ⟨o, e, _⟩ := il; ⟨o, e⟩)
theorem lst_lt {b : Addr} {h : Heap} {vs : Array Value} (il : h.IsList b vs) : b < h.objs.size := Heap.lt_size il.choose_spec.1
theorem item_tup {es : List Expr} {k : Nat} {pos : Pos} {S' : Sto} {b : St c S'} {T : Addr} {vals : List Value} {ds : List D} (hT : b.s.heap.IsTuple T vals.toArray) (h : b.vs vals ds) : Item (.Tuple es k pos) b (.ref T) (.tuple ds) := by
  rintro ds' e; cases e; exact ⟨T, vals, rfl, hT, h⟩
theorem at_zip (room : Room n A) (hu : a.v u (.list l)) (hv : a.v v (.list m)) (h : IK A (.Tuple es k pos) a (zipD l m) Q) : wpAny (model pw c.w) A (call (.type "zip") [u, v]) (fun xv s1 => wpAny (model pw c.w) A (pyIter xv) Q noE s1) noE a.s := by
  obtain ⟨x, xs, rfl, na, nta, il, lv⟩ := V.lst_ hu
  obtain ⟨y, ys, rfl, nb, ntb, jl, mv⟩ := V.lst_ hv
  refine call_zip_2 il jl fun h' hz hTI hTO hi1 hi2 _ hk => wpAny_pyIter_zip hz ?_
  have hn : ∀ z ∈ [a.s.heap.objs.size + 4, a.s.heap.objs.size + 3, a.s.heap.objs.size, a.s.heap.objs.size + 1], a.s.heap.objs.size ≤ z ∧ ∃ ob, h'.get? z = some ob :=
    all_c ⟨Nat.le_add_right _ _, _, hz⟩ (all_c ⟨Nat.le_add_right _ _, _, hTO⟩ (all_c ⟨Nat.le_refl _, let ⟨o, e, _⟩ := hi1; ⟨o, e⟩⟩ (all_c ⟨Nat.le_add_right _ _, let ⟨o, e, _⟩ := hi2; ⟨o, e⟩⟩ all_n)))
  have hsz : min xs.toArray.size ys.toArray.size = (zipD l m).length := by unfold zipD; rw [List.length_zipWith, ← lv.length, ← mv.length]; rfl
  refine h (a.adopt _ h' a.s.toks hk hn) ⟨a.s.heap.objs.size + 4, _, _, _, _, _⟩ a.adopt_to (ItAt.make (hsz ▸ KTurns.ofWalksU (WalksT.zip2 room.hd _ _ _ _ _ x y (zipApart_new (lst_lt il) (lst_lt jl)) xs.toArray ys.toArray).toU) rfl ⟨hz, hTI, ⟨_, _, hTO⟩, hi1, hi2, il.at fun o e => hk _ o e, jl.at fun o e => hk _ o e⟩
    (fun s' Q st q => wpAny_pyIter_zip st.1 q) (all_c (.inl (.head _)) (all_c (.inr (.inl ⟨Nat.le_add_right _ _, _, hTI⟩)) (all_c (.inl (.tail _ (.head _))) (all_c (.inl (.tail _ (.tail _ (.head _)))) (all_c (.inl (.tail _ (.tail _ (.tail _ (.head _))))) (all_c (.inr (.inr (lst_ct na nta il))) (all_c (.inr (.inr (lst_ct nb ntb jl))) all_n)))))))
    (fun i hh st => all_c ⟨_, st.1⟩ (all_c (let ⟨_, _, e⟩ := st.2.2.1; ⟨_, e⟩) (all_c (let ⟨o, e, _⟩ := st.2.2.2.1; ⟨o, e⟩) (all_c (let ⟨o, e, _⟩ := st.2.2.2.2.1; ⟨o, e⟩) all_n)))) fun b i v d t hp hd => ?_) fun z hz => Heap.get?_none_of_le (hn z hz).1
  obtain ⟨T, vals, rfl, ⟨x', y', hx, hy, rfl⟩, hT⟩ := hp
  obtain ⟨da, db, e1, e2, rfl⟩ := List.getElem?_zipWith_eq_some.mp hd
  have key : ∀ {ws : List Value} {ds : List D}, a.vs ws ds → b.vs ws ds := fun h => t.elim (fun t => t.vs h) fun t => t.vs (St.adopt_to a |>.vs h)
  exact item_tup (vals := [x', y']) hT (.cons ((key lv).at_ e1 (to_get hx)) (.cons ((key mv).at_ e2 (to_get hy)) .nil))
theorem z3_new {n a b d : Nat} (a1 : a < n) (a2 : b < n) (a3 : d < n) : Z3 (n + 5) (n + 3) (n + 4) n (n + 1) (n + 2) a b d := by
  have key : ∀ {x : Nat}, x < n → x ∉ [n + 5, n + 4, n, n + 1, n + 2] := fun {x} h m => by
    have : n ≤ x := all_c (P := fun z => n ≤ z) (Nat.le_add_right _ _) (all_c (Nat.le_add_right _ _) (all_c (Nat.le_refl _) (all_c (Nat.le_add_right _ _) (all_c (Nat.le_add_right _ _) all_n)))) x m
    exact Nat.lt_irrefl _ (Nat.lt_of_lt_of_le h this)
  exact ⟨by simp, key a1, key a2, key a3⟩
theorem at_zip3 (room : Room n A) (hu : a.v u (.list l)) (hv : a.v v (.list m)) (hw : a.v w (.list q)) (sz1 : m.length = l.length) (sz2 : q.length = l.length) (h : IK A (.Tuple es k pos) a (zip3D l m q) Q) : wpAny (model pw c.w) A (call (.type "zip") [u, v, w]) (fun xv s1 => wpAny (model pw c.w) A (pyIter xv) Q noE s1) noE a.s := by
  obtain ⟨x, xs, rfl, na, nta, il, lv⟩ := V.lst_ hu
  obtain ⟨y, ys, rfl, nb, ntb, jl, mv⟩ := V.lst_ hv
  obtain ⟨z, zs, rfl, nd, ntd, kl, qv⟩ := V.lst_ hw
  refine call_zip3 il jl kl fun h' hz hst hk => wpAny_pyIter_zip hz ?_
  have al : ∀ {h : Heap} {j : Nat}, ZSt h (a.s.heap.objs.size + 5) (a.s.heap.objs.size + 3) (a.s.heap.objs.size + 4) a.s.heap.objs.size (a.s.heap.objs.size + 1) (a.s.heap.objs.size + 2) x y z xs.toArray ys.toArray zs.toArray j → (∃ o, h.get? (a.s.heap.objs.size + 5) = some o) → ∀ x ∈ [a.s.heap.objs.size + 5, a.s.heap.objs.size + 4, a.s.heap.objs.size, a.s.heap.objs.size + 1, a.s.heap.objs.size + 2], a.s.heap.objs.size ≤ x ∧ ∃ ob, h.get? x = some ob :=
    fun st e5 => all_c ⟨Nat.le_add_right _ _, e5⟩ (all_c ⟨Nat.le_add_right _ _, let ⟨_, _, _, e⟩ := st.to; ⟨_, e⟩⟩ (all_c ⟨Nat.le_refl _, let ⟨o, e, _⟩ := st.h1; ⟨o, e⟩⟩ (all_c ⟨Nat.le_add_right _ _, let ⟨o, e, _⟩ := st.h2; ⟨o, e⟩⟩ (all_c ⟨Nat.le_add_right _ _, let ⟨o, e, _⟩ := st.h3; ⟨o, e⟩⟩ all_n))))
  have hn := al hst ⟨_, hz⟩
  have e1 : ys.toArray.size = xs.toArray.size := (mv.length.trans sz1).trans lv.length.symm
  have e2 : zs.toArray.size = xs.toArray.size := (qv.length.trans sz2).trans lv.length.symm
  have hsz : xs.toArray.size = (zip3D l m q).length := by unfold zip3D; rw [List.length_zipWith, List.length_zip, sz1, sz2, Nat.min_self, Nat.min_self, ← lv.length]; rfl
  refine h (a.adopt _ h' a.s.toks hk hn) ⟨a.s.heap.objs.size + 5, _, _, _, _, _⟩ a.adopt_to (ItAt.make (hsz ▸ KTurns.ofWalksU (WalksT.zip3 room.hd _ _ _ _ _ _ x y z (z3_new (lst_lt il) (lst_lt jl) (lst_lt kl)) xs.toArray ys.toArray zs.toArray e1 e2).toU) rfl ⟨hz, hst⟩
    (fun s' Q st q => wpAny_pyIter_zip st.1 q) (all_c (.inl (.head _)) (all_c (.inr (.inl ⟨Nat.le_add_right _ _, _, hst.ti⟩)) (all_c (.inl (.tail _ (.head _))) (all_c (.inl (.tail _ (.tail _ (.head _)))) (all_c (.inl (.tail _ (.tail _ (.tail _ (.head _))))) (all_c (.inl (.tail _ (.tail _ (.tail _ (.tail _ (.head _)))))) (all_c (.inr (.inr (lst_ct na nta il))) (all_c (.inr (.inr (lst_ct nb ntb jl))) (all_c (.inr (.inr (lst_ct nd ntd kl))) all_n)))))))))
    (fun i hh st x m => (al st.2 ⟨_, st.1⟩ x m).2) fun b i v d t hp hd => ?_) fun z hz => Heap.get?_none_of_le (hn z hz).1
  obtain ⟨T, vals, rfl, ⟨x', y', z', hx, hy, hz', rfl⟩, hT⟩ := hp
  obtain ⟨da, db, e1, e2, rfl⟩ := List.getElem?_zipWith_eq_some.mp hd
  obtain ⟨e2, e3⟩ := List.getElem?_zip_eq_some.mp e2
  have key : ∀ {ws : List Value} {ds : List D}, a.vs ws ds → b.vs ws ds := fun h => t.elim (fun t => t.vs h) fun t => t.vs (St.adopt_to a |>.vs h)
  exact item_tup (vals := [x', y', z']) hT (.cons ((key lv).at_ e1 (to_get hx)) (.cons ((key mv).at_ e2 (to_get hy)) (.cons ((key qv).at_ e3 (to_get hz')) .nil)))
theorem at_enum {h' : Heap} {N : Nat} {P : Nat → Value → Prop} {T : Nat → Heap → Prop} {C : List Addr} (Dr : Draws pw c.w A.in1 a.s.heap.objs.size (a.s.heap.objs.size :: C) N P T) (hN : N = (enumD 0 l).length) (hk : ∀ b o, a.s.heap.get? b = some o → h'.get? b = some o) (hE : ∃ old, IsEnum h' (a.s.heap.objs.size + 1) a.s.heap.objs.size 0 old) (st : T 0 h')
    (hC : ∀ z ∈ C, Ct a z) (item : ∀ {X : List Addr} {S' : Sto} (b : St c S') i x d, To X a b → P i x → l[i]? = some d → b.v x d) (h : IK A (.Tuple es k pos) a (enumD 0 l) Q) : Q (.ref (a.s.heap.objs.size + 1)) { a.s with heap := h' } := by
  have lv : ∀ {h : Heap} {i : Nat}, (∃ old, IsEnum h (a.s.heap.objs.size + 1) a.s.heap.objs.size i old) → T i h → ∀ z ∈ [a.s.heap.objs.size + 1, a.s.heap.objs.size], a.s.heap.objs.size ≤ z ∧ ∃ ob, h.get? z = some ob :=
    fun e t => all_c ⟨Nat.le_add_right _ _, let ⟨_, e⟩ := e; ⟨_, e⟩⟩ (all_c ⟨Nat.le_refl _, Dr.live _ _ t⟩ all_n)
  have nC : ∀ z ∈ C, z < a.s.heap.objs.size := fun z m => let ⟨o, e⟩ := (hC z m).1; Heap.lt_size e
  have W := WalksT.enumerateD Dr (a.s.heap.objs.size + 1) (Nat.succ_ne_self _) (fun m => (List.mem_cons.mp m).elim (Nat.succ_ne_self _) fun q => Nat.lt_irrefl _ (Nat.lt_trans (Nat.lt_succ_self _) (nC _ q))) (.head _)
  refine h (a.adopt _ h' a.s.toks hk (lv hE st)) ⟨a.s.heap.objs.size + 1, _, _, _, _, _⟩ a.adopt_to (ItAt.make (hN ▸ KTurns.ofWalksU W.toU) rfl ⟨hE, st⟩ (fun s' Q st q => wpAny_pyIter_enum st.1.choose_spec q) (all_c (.inl (.head _)) (all_c (.inl (.tail _ (.head _))) fun z m => .inr (.inr (hC z m)))) (fun i h st z m => (lv st.1 st.2 z m).2) fun b i v d t hp hd => ?_) fun z hz => Heap.get?_none_of_le (lv hE st z hz).1
  obtain ⟨T', vals, rfl, ⟨tk', x, hx, rfl⟩, hT⟩ := hp
  obtain ⟨da, e1, rfl⟩ := enumD_get hd
  exact item_tup (vals := [.int i tk', x]) hT (.cons (by rw [Nat.zero_add]; exact .int _ _) (.cons (t.elim (fun t => item b i x _ t hx e1) fun t => item b i x _ ((St.adopt_to a).after (Y := List.filter (fun z => a.wl.contains z) _) t (fun z m => ((St.adopt_to a).new z (t.xs z m)).imp (fun q => List.mem_filter.mpr ⟨m, by simpa using q⟩) id) fun z m => by simpa using (List.mem_filter.mp m).2) hx e1) .nil))
theorem at_enum_list (room : Room n A) (hu : a.v u (.list l)) (h : IK A (.Tuple es k pos) a (enumD 0 l) Q) : wpAny (model pw c.w) A (call (.type "enumerate") [u]) (fun xv s1 => wpAny (model pw c.w) A (pyIter xv) Q noE s1) noE a.s := by
  obtain ⟨x, xs, rfl, na, nta, il, lv⟩ := V.lst_ hu
  refine call_enumerate_list il fun h' hE hi1 _ hk => wpAny_pyIter_enum hE ?_
  exact at_enum (Draws.list (prog := pw) (w := c.w) (A := A.in1) room.hd a.s.heap.objs.size x (Nat.ne_of_lt (lst_lt il)) xs.toArray) (by rw [enumD_len, ← lv.length]; rfl) hk ⟨_, hE⟩ ⟨hi1, il.at fun o e => hk _ o e⟩ (all_c (lst_ct na nta il) all_n) (fun b i x d t hp hd => (t.vs lv).at_ hd (to_get hp)) h
theorem at_enum_str {x : Str} {tx : Tok} (room : Room n A) (h : IK A (.Tuple es k pos) a (enumD 0 (signs x)) Q) : wpAny (model pw c.w) A (call (.type "enumerate") [.str x tx]) (fun xv s1 => wpAny (model pw c.w) A (pyIter xv) Q noE s1) noE a.s := by
  refine call_enumerate_str fun h' hE hi1 _ hk => wpAny_pyIter_enum hE ?_
  unfold strIterType at hi1
  cases ha : x.cps.all (· < 128)
  · rw [ha] at hi1
    exact at_enum (Draws.strWide (A := A.in1) room.hd _ x tx) (by rw [enumD_len, signs_len]) hk ⟨_, hE⟩ hi1 all_n (fun b i x d t hp hd => signs_get hp hd) h
  · rw [ha] at hi1
    exact at_enum (Draws.strAscii (A := A.in1) room.hd _ x tx) (by rw [enumD_len, signs_len]) hk ⟨_, hE⟩ hi1 all_n (fun b i x d t hp hd => signs_get hp hd) h
end
theorem slotA_iter : SlotA "list.__iter__" "__iter__" := ⟨by decide +kernel, by first | exact .inl (by decide +kernel) | exact .inr (by decide +kernel), by decide +kernel⟩
theorem acc_pyIter {c : Cx} {A : Around} {s : Shared} {a dx : Addr} {vs : List Value} {n : Nat} {Q : Value → Shared → Prop} (ho : s.heap.get? a = some (accObj dx vs n)) (K : (zK c.w.params).In s.heap)
    (hQ : Q (.ref s.heap.objs.size) { s with heap := s.heap.push { cls := .type "list_iterator", data := .fields #[.ref a, .int 0 0] } }) : wpAny (model pw c.w) A (pyIter (.ref a)) Q noE s := by
  have hl : findIn (zK c.w.params) (.ref 94) "__iter__" = some (some (.builtin "list.__iter__")) := by kernel_rfl
  unfold pyIter
  refine wpAny_bind (acc_special ho K hl ?_)
  show wpAny _ A (callSpecialIfBoundUnlessNone? (.ref a) "__iter__" _ >>= _) Q noE s
  refine wpAny_bind ?_
  simp only [callSpecialIfBoundUnlessNone?, bindSpecialIfBound?]
  refine wpAny_holding (wpAny_bind (wpAny_bind (acc_special ho K hl ?_)))
  simp only [slot_list_iter.bind]
  refine wpAny_bind (wpAny_askSetting (wpAny_ite ?_))
  have hc : wpAny (model pw c.w) A (call (.builtin "list.__iter__") [.ref a]) (fun it s' => wpAny (model pw c.w) A (specialOf it "__next__") (fun o s2 => o.isSome = true ∧ Q it s2) noE s') noE s := by
    refine slotA_iter.call entry_list_iter ho K (args_list_iter _) ?_
    show wpAny _ _ (do ret (← newFields "list_iterator" [.ref a, rawInt 0])) _ _ s
    refine wpAny_bind (wpAny_newObj_type (wpAny_pure ⟨_, rfl, ?_⟩))
    exact wpAny_specialOf (T := "list_iterator") ⟨_, Heap.get?_push_size _ rfl, rfl⟩ slot_listiter_next.lookup ⟨rfl, hQ⟩
  have fin : ∀ refuse : Sem Value, wpAny (model pw c.w) A (if (Value.builtin "list.__iter__" == Value.none) = true then (refuse >>= fun v => pure (some v)) else (call (.builtin "list.__iter__") [.ref a] >>= fun v => pure (some v))) (fun r s' => wpAny (model pw c.w) A (match r with
      | some it => specialOf it "__next__" >>= fun o => (match o with
        | none => (do rule "iter.non-iterator"; raiseError "TypeError" s!"iter() returned non-iterator of type '{← typeNameOf it}'" : Sem Value)
        | some _ => pure it)
      | none => bindSpecialIfBound? (.ref a) "__getitem__" >>= fun o => (match o with
        | none => (do rule "iter.not-iterable"; raiseError "TypeError" s!"'{← typeNameOf (.ref a)}' object is not iterable" : Sem Value)
        | some _ => (do rule "iter.getitem-fallback"; newFields "iterator" [.ref a, ← mkInt 0]))) Q noE s') noE s := by
    intro refuse
    simp only [builtin_beq_none, Bool.false_eq_true, if_false]
    refine wpAny_bind (wpAny_mono hc (fun v s' h' => wpAny_pure ?_) fun _ _ h' => h')
    refine wpAny_bind (wpAny_mono h' (fun o s2 h2 => ?_) fun _ _ h' => h')
    obtain ⟨h1, h2⟩ := h2
    cases o with
    | none => cases h1
    | some _ => exact wpAny_pure h2
  split
  · exact wpAny_bind (wpAny_pure (wpAny_pure (fin _)))
  · exact wpAny_tryCatch (wpAny_bind (wpAny_pure (wpAny_pure (wpAny_mono (fin _) (fun _ _ x => x) fun _ _ x => x.elim))))
theorem noStar_any {env : Env} {pos : Pos} : ∀ {es : List Expr}, es.any isStar = false → (backTo pos (starEach es env)).any (·.1) = false
  | [], _ => rfl
  | e :: es, h => by
    simp only [List.any_cons, Bool.or_eq_false_iff] at h
    rw [starEach_cons h.1]
    show (false || (backTo pos (starEach es env)).any (·.1)) = false
    rw [noStar_any h.2]; rfl
theorem args_ok {M : Model} {A : Around} {E : Value → Shared → Prop} {s : Shared} {env : Env} {pos : Pos} {f : Value} {es : List Expr} {Q : Args → Shared → Prop} (hs : es.any isStar = false) (h : wpAny M A (spliced (backTo pos (starEach es env))) (fun us s1 => Q ⟨us, []⟩ s1) E s) :
    wpAny M A (evalArgs f true (backTo pos (starEach es env)) []) Q E s := by
  cases es with
  | nil =>
    unfold evalArgs
    show wpAny M A (spliced [] >>= _) Q E s
    refine wpAny_bind (wpAny_mono h (fun us s1 h1 => ?_) fun _ _ x => x)
    refine wpAny_bind (wpAny_pure ?_)
    refine wpAny_holding ?_
    exact wpAny_bind (wpAny_pure (wpAny_bind (wpAny_pure (wpAny_pure h1))))
  | cons e es =>
    simp only [List.any_cons, Bool.or_eq_false_iff] at hs
    rw [starEach_cons hs.1] at h ⊢
    exact Calls.evalArgs_plain h
def CW (c : Cx) (fv : Value) : Prop := ∀ (A : Around) (p pos : Pos) (first : List Value) (es : List Expr) (env : Env) (s : Shared) (Q : Value → Shared → Prop), es.any isStar = false →
  wpAny (model pw c.w) A (spliced (backTo pos (starEach es env))) (fun us s1 => (zK c.w.params).In s1.heap ∧ wpAny (model pw c.w) A (call fv (first ++ us)) Q noE s1) noE s → wpAny (model pw c.w) A (callWith p fv first (backTo pos (starEach es env)) []) Q noE s
theorem cw_type (c : Cx) (T : String) : CW c (.type T) := fun A p pos first es env s Q hs h =>
  PySem.callWith_type (noStar_any hs) (args_ok hs (wpAny_mono h (fun us s1 h1 => h1.2) fun _ _ x => x))
theorem cw_builtin (c : Cx) (id : String) : CW c (.builtin id) := fun A p pos first es env s Q hs h =>
  Calls.callWith_builtin (noStar_any hs) (args_ok hs (wpAny_mono h (fun us s1 h1 => h1.2) fun _ _ x => x))
theorem cw_func (c : Cx) {a : Addr} {o : Obj} {fd : FuncData} (e : (zK c.w.params).lookup a = some o) (d : o.data = .func fd) : CW c (.ref a) := fun A p pos first es env s Q hs h =>
  Calls.callWith_function (args_ok hs (wpAny_mono h (fun us s1 h1 => ⟨⟨h1.1 a o e, d⟩, h1.2⟩) fun _ _ x => x))
def Glob (c : Cx) (f : Str) (fv : Value) : Prop := ∀ (A : Around) (env : Env) (s : Shared) (Q : Value → Shared → Prop), env.globals = 3 → env.builtins = 0 → (zK c.w.params).In s.heap → Q fv s → wpAny (model pw c.w) A (loadGlobal env f) Q noE s
theorem glob_own {c : Cx} {f : Str} {fv : Value} (e : nsIn (zK c.w.params) 3 f = some (some fv)) : Glob c f fv := fun A env s Q h1 h2 K h => by
  unfold loadGlobal
  rw [h1]
  exact wpAny_bind (Looks.here (looks_nsIn K e) (wpAny_pure h))
theorem glob_boot {c : Cx} {f : Str} {fv : Value} (e : nsIn (zK c.w.params) 3 f = some none) (e0 : nsIn (zK c.w.params) 0 f = some (some fv)) : Glob c f fv := fun A env s Q h1 h2 K h => by
  unfold loadGlobal
  rw [h1, h2]
  exact wpAny_bind (Looks.here (looks_nsIn K e) (wpAny_bind (Looks.here (looks_nsIn K e0) (wpAny_pure h))))
def lkS (u : Option (Nat × M)) (S : Sto) : Sto := match u with
  | none => S
  | some (i, _) => S.set i .lock
def LkOk (u : Option (Nat × M)) (S : Sto) : Prop := match u with
  | none => True
  | some (i, m) => S[i]? = some m ∧ m.open? = true
def St.lk {c : Cx} {S : Sto} (a : St c S) (u : Option (Nat × M)) : St c (lkS u S) := match u with
  | none => a
  | some (i, _) => a.lock i
theorem St.unlk {c : Cx} {S : Sto} {X : List Addr} (a : St c S) {u : Option (Nat × M)} (h : LkOk u S) {b : St c (lkS u S)} (t : To X (a.lk u) b) (xg : ∀ z ∈ X, z ∉ gad a.G) : ∃ d : St c S, d.s = b.s ∧ d.wl = b.wl ∧ d.G = b.G ∧ To X a d := by
  cases u with
  | none => exact ⟨b, rfl, rfl, rfl, t⟩
  | some p =>
    obtain ⟨i, m⟩ := p
    obtain ⟨k, t2⟩ := St.unlock_to a h.1 t xg
    have e : (S.set i .lock).set i m = S := by
      rw [List.set_set]
      exact List.ext_getElem? fun j => by
        by_cases hj : j = i
        · rw [hj, List.getElem?_set_self (List.getElem?_eq_some_iff.mp h.1).1, h.1]
        · rw [List.getElem?_set_ne (Ne.symm hj)]
    have key : ∀ {S' : Sto} (b' : St c S'), S' = S → To X a b' → ∃ d : St c S, d.s = b'.s ∧ d.wl = b'.wl ∧ d.G = b'.G ∧ To X a d := fun b' e t => by subst e; exact ⟨b', rfl, rfl, rfl, t⟩
    exact key (b.re i m k) e t2
inductive SV (S : Sto) : Val → List D × Sto × Option (Nat × M) → Prop
  | lst (l : List D) : SV S (.d (.list l)) (l, S, none)
  | tup (l : List D) : SV S (.d (.tuple l)) (l, S, none)
  | str (x : Str) : SV S (.d (.str x)) (signs x, S, none)
  | ref {i : Nat} {m : M} {l : List D} : S[i]? = some m → m.its = some l → SV S (.ref i) (l, S, some (i, m))
section
variable (f : Fr)
abbrev SK (A : Around) (tgt : Expr) {S : Sto} (a : St f.c S) (z : List D × Sto × Option (Nat × M)) (Q : Value → Shared → Prop) : Prop :=
  ∀ (b : St f.c z.2.1) (d : St f.c (lkS z.2.2 z.2.1)) (it : Itr), To [] a b → LkOk z.2.2 z.2.1 → To [] (b.lk z.2.2) d → ItAt A tgt d it z.1 → (∀ y ∈ it.wr, b.s.heap.get? y = none) → Q (.ref it.I) d.s
def SRC (tgt x : Expr) (e : En) (S : Sto) (z : List D × Sto × Option (Nat × M)) : Prop := (∀ env v, foldedSetIterable x env v = pure v) ∧
  ∀ (env : Env) (A : Around) (a : St f.c S) (Q : Value → Shared → Prop), Pre f env A a e → SK f A tgt a z Q → wpAny (model pw f.c.w) A (eval x env) (fun xv s1 => wpAny (model pw f.c.w) A (pyIter xv) Q noE s1) noE a.s
end
section
variable {f : Fr} {env : Env} {A : Around} {e : En} {S S1 S2 S3 : Sto} {p q : Pos} {v : Val} {x y w tgt : Expr} {z : List D × Sto × Option (Nat × M)} {n kk : Nat} {l m k : List D} {es : List Expr} {pp : Pos}
theorem SV.ok (room : Room n A) {a : St f.c S} {u : Value} {Q : Value → Shared → Prop} (h0 : SV S v z) (hu : a.vv u v) (h : SK f A tgt a z Q) : wpAny (model pw f.c.w) A (pyIter u) Q noE a.s := by
  cases h0 with
  | lst l =>
    obtain ⟨x, vs, rfl, na, nt, il, lv⟩ := V.lst_ hu
    exact wpAny_pyIter_list il (h a _ _ (To.refl a) trivial a.pushO_to (at_seq room (let ⟨o, e, _, r⟩ := il; ⟨o, e, r⟩) lv (lst_ct na nt il)) (one_no a))
  | tup l =>
    obtain ⟨x, vs, rfl, na, nt, il, lv⟩ := V.tup_ hu
    exact wpAny_pyIter_tuple il (h a _ _ (To.refl a) trivial a.pushO_to (at_tup room il lv (ct_data na nt (let ⟨o, e, _⟩ := il; ⟨o, e⟩))) (one_no a))
  | str x =>
    obtain ⟨t, rfl⟩ := V.str_ hu
    exact at_str room fun b it t hi hz => h a b it (To.refl a) trivial t hi hz
  | @ref i m l hl hm =>
    obtain ⟨o, eo, rfl⟩ := hu
    have go : ∀ {vs : List Value}, m.open? = true → IsSeq a.s.heap o.a vs.toArray → a.vs vs l → Q (.ref a.s.heap.objs.size) ((a.lock i).pushO { cls := .type "list_iterator", data := .fields #[.ref o.a, .int 0 0] } a.s.toks rfl).s := fun mo il lv =>
      h a _ _ (To.refl a) ⟨hl, mo⟩ (St.pushO_to _) (at_seq (a := a.lock i) room il lv ⟨let ⟨ob, e, _⟩ := il; ⟨ob, e⟩, fun q => W_lock2 q eo (.head _) a.good.nd, a.good.off (a.good.own _ (gad_of eo (.head _))), fun _ => gad_of eo (.head _)⟩) (one_no a)
    cases m with
    | list l0 =>
      cases hm
      obtain ⟨vs, il, lv⟩ := a.good.sat.at_ hl eo
      exact wpAny_pyIter_list il.il (go rfl (let ⟨o, e, _, r⟩ := il.il; ⟨o, e, r⟩) lv)
    | acc l0 kk =>
      cases hm
      obtain ⟨dx, vs, nn, t, t', _, ho, _, lv⟩ := a.good.sat.at_ hl eo
      exact acc_pyIter ho a.good.kin (go rfl ⟨_, ho, nn, rfl⟩ lv)
    | lock => cases hm
theorem src_plain (hp : ∀ env v, foldedSetIterable x env v = pure v) (h : EV f x e S (v, S1)) (h2 : SV S1 v z) : SRC f tgt x e S z := ⟨hp, fun env A a Q P hk =>
  h env A a _ P fun u b t1 v1 => h2.ok P.room v1 fun d g it t2 => hk d g it (t1.trans t2)⟩
theorem call_ok {g : Str} {fv : Value} {es : List Expr} {a : St f.c S} {Q : Value → Shared → Prop} {zv : List Val × Sto} (P : Pre f env A a e) (hg : isG f.ks g = true) (gf : Glob f.c g fv) (cw : CW f.c fv) (hs : VS f es e S zv)
    (h : ∀ us (b : St f.c zv.2), To [] a b → b.vvs us zv.1 → wpAny (model pw f.c.w) A (call fv us) Q noE b.s) : wpAny (model pw f.c.w) A (eval (.Call (.Name g p) es [] q) env) Q noE a.s :=
  wpAny_Call_NameR (Calls.Name_function_global P.fm.kind (P.fm.gl g (isG_inv hg).2) (gf A env a.s _ P.fm.globals P.fm.builtins a.good.kin (cw A q q [] es env a.s Q hs.star (hs.ok _ env A a _ P fun us b t vv => ⟨b.good.kin, h us b t vv⟩))) (isG_inv hg).1)
theorem src_range {k : Int} (hg : isG f.ks (Str.ofString "range") = true) (hs : isStar x = false) (h : EV f x e S (.d (.int k), S1)) (hk : 0 ≤ k ∧ k ≤ 4096) : SRC f tgt (.Call (.Name (Str.ofString "range") q) [x] [] p) e S (rangeD k, S1, none) := ⟨fun _ _ => rfl, fun env A a Q P hh =>
  call_ok P hg (glob_boot (by kernel_rfl) (by kernel_rfl)) (cw_type _ "range") (.cons hs h .nil) fun us b t1 vv => by
    obtain ⟨w, rfl, v1⟩ := vv.one_
    obtain ⟨t, rfl⟩ := V.int_ v1
    exact at_range hk.1 hk.2 P.room fun d it t2 => hh b d it t1 trivial t2⟩
theorem src_enum (hg : isG f.ks (Str.ofString "enumerate") = true) (hs : isStar x = false) (h : EV f x e S (v, S1)) (h2 : v = .d (.list l) ∨ ∃ s, v = .d (.str s) ∧ l = signs s) : SRC f (.Tuple es kk pp) (.Call (.Name (Str.ofString "enumerate") q) [x] [] p) e S (enumD 0 l, S1, none) := by
  exact ⟨fun _ _ => rfl, fun env A a Q P hh =>
    call_ok P hg (glob_boot (by kernel_rfl) (by kernel_rfl)) (cw_type _ "enumerate") (.cons hs h .nil) fun us b t1 vv => by
      obtain ⟨w, rfl, v1⟩ := vv.one_
      rcases h2 with rfl | ⟨s, rfl, rfl⟩
      · exact at_enum_list P.room v1 fun d it t2 => hh b d it t1 trivial t2
      · obtain ⟨t, rfl⟩ := V.str_ v1
        exact at_enum_str P.room fun d it t2 => hh b d it t1 trivial t2⟩
theorem src_zip (hg : isG f.ks (Str.ofString "zip") = true) (hs : isStar x = false) (hs2 : isStar y = false) (h : EV f x e S (.d (.list l), S1)) (h2 : EV f y e S1 (.d (.list m), S2)) : SRC f (.Tuple es kk pp) (.Call (.Name (Str.ofString "zip") q) [x, y] [] p) e S (zipD l m, S2, none) := by
  exact ⟨fun _ _ => rfl, fun env A a Q P hh =>
    call_ok P hg (glob_boot (by kernel_rfl) (by kernel_rfl)) (cw_type _ "zip") (.cons hs h (.cons hs2 h2 .nil)) fun us b t1 vv => by
      obtain ⟨w1, ws, rfl, v1, vv⟩ := vv.cons_
      obtain ⟨w2, rfl, v2⟩ := vv.one_
      exact at_zip P.room v1 v2 fun d it t2 => hh b d it t1 trivial t2⟩
theorem src_zip3 (hg : isG f.ks (Str.ofString "zip") = true) (hs : isStar x = false) (hs2 : isStar y = false) (hs3 : isStar w = false) (h : EV f x e S (.d (.list l), S1)) (h2 : EV f y e S1 (.d (.list m), S2)) (h3 : EV f w e S2 (.d (.list k), S3)) (hm : m.length = l.length) (hk : k.length = l.length) : SRC f (.Tuple es kk pp) (.Call (.Name (Str.ofString "zip") q) [x, y, w] [] p) e S (zip3D l m k, S3, none) := by
  exact ⟨fun _ _ => rfl, fun env A a Q P hh =>
    call_ok P hg (glob_boot (by kernel_rfl) (by kernel_rfl)) (cw_type _ "zip") (.cons hs h (.cons hs2 h2 (.cons hs3 h3 .nil))) fun us b t1 vv => by
      obtain ⟨w1, ws, rfl, v1, vv⟩ := vv.cons_
      obtain ⟨w2, ws, rfl, v2, vv⟩ := vv.cons_
      obtain ⟨w3, rfl, v3⟩ := vv.one_
      exact at_zip3 P.room v1 v2 v3 hm hk fun d it t2 => hh b d it t1 trivial t2⟩
end
theorem fills_list (c : Cx) : peek (zK c.w.params) ⟨pw, c.w.params⟩ (fillsNumberSlot (.type "list") "add") = some false := by kernel_rfl
theorem fills_acc (c : Cx) : peek (zK c.w.params) ⟨pw, c.w.params⟩ (fillsNumberSlot (.ref 94) "add") = some false := by kernel_rfl
theorem filli_list (c : Cx) : peek (zK c.w.params) ⟨pw, c.w.params⟩ (fillsInplaceSlot (.type "list") "add" true) = some false := by kernel_rfl
theorem filli_acc (c : Cx) : peek (zK c.w.params) ⟨pw, c.w.params⟩ (fillsInplaceSlot (.ref 94) "add" true) = some true := by kernel_rfl
theorem seqi_list (c : Cx) : peek (zK c.w.params) ⟨pw, c.w.params⟩ (seqSlot? (.type "list") (dunderI "add")) = some (some (.builtin "list.__iadd__")) := by kernel_rfl
theorem seqi_acc (c : Cx) : peek (zK c.w.params) ⟨pw, c.w.params⟩ (seqSlot? (.ref 94) (dunderI "add")) = some (some (.builtin "list.__iadd__")) := by kernel_rfl
theorem iadd_body {c : Cx} {A : Around} {E : Value → Shared → Prop} {s : Shared} {a b : Addr} {o : Obj} {vs ws : List Value} {n : Nat} {Q : Value → Shared → Prop} (ho : s.heap.get? a = some o) (hd : o.data = .seq vs.toArray n) (hb : s.heap.IsList b ws.toArray) (sz : vs.length + ws.length ≤ sizeLine)
    (h : Q (.ref a) { s with heap := s.heap.update a (Obj.mapSeq (· ++ ws.toArray)) }) : wpAny (model pw c.w) A (Builtin.«list.__iadd__» ⟨[.ref a, .ref b], []⟩) (fun fin s' => ∃ v, fin = .done (.ret v) ∧ Q v s') E s := by
  obtain ⟨ob, hob, hcb, nb, hdb⟩ := id hb
  show wpAny _ A (Builtin.List.listExtendWith (.ref a) (.ref b) (.ref a)) _ _ s
  unfold Builtin.List.listExtendWith
  refine wpAny_bind (wpAny_typeOf hb.typeIs ?_)
  rw [if_pos (by simp)]
  unfold Builtin.List.listItems
  refine wpAny_bind (wpAny_bind (wpAny_seqItems hob hdb (wpAny_pure ?_)))
  refine wpAny_bind (wpAny_bind (wpAny_seqItems ho hd (wpAny_pure ?_)))
  have hl : ¬ (!vs.toArray.isEmpty && Builtin.List.listTooLong (vs.toArray.size + ws.toArray.size)) = true := by
    intro q
    obtain ⟨_, q⟩ := Bool.and_eq_true_iff.mp q
    simp [Builtin.List.listTooLong, sizeLine] at q sz
    omega
  rw [if_neg hl]
  show wpAny _ A (updateSeq a (· ++ ws.toArray) >>= fun _ => ret (.ref a)) _ _ s
  exact wpAny_bind (wpAny_updateSeq ho hd (wpAny_pure ⟨_, rfl, h⟩) (by simp; omega) (by simp; omega))
theorem slotA_iadd : SlotA "list.__iadd__" "__iadd__" := ⟨by decide +kernel, by first | exact .inl (by decide +kernel) | exact .inr (by decide +kernel), by decide +kernel⟩
theorem inplace_list {c : Cx} {A : Around} {s : Shared} {a b : Addr} {vs ws : Array Value} {Q : Value → Shared → Prop} (K : (zK c.w.params).In s.heap) (ha : s.heap.IsList a vs) (hb : s.heap.IsList b ws)
    (h : wpAny (model pw c.w) A (call (.builtin "list.__iadd__") [.ref a, .ref b]) Q noE s) : wpAny (model pw c.w) A (inplaceOp .Add (.ref a) (.ref b)) Q noE s := by
  unfold inplaceOp
  refine wpAny_holding (wpAny_bind (wpAny_typeOf ha.typeIs ?_))
  refine wpAny_bind (Looks.here (Looks.of_peek K (filli_list c)) ?_)
  rw [if_neg (by simp)]
  refine wpAny_bind ?_
  · unfold binaryOp1
    refine wpAny_bind (wpAny_typeOf ha.typeIs (wpAny_bind (wpAny_typeOf hb.typeIs ?_)))
    refine wpAny_bind (Looks.here (Looks.of_peek K (fills_list c)) ?_)
    refine wpAny_bind (wpAny_pure ?_)
    simp only [Bool.false_and, Bool.false_eq_true, if_false, pure_bind]
    refine wpAny_pure ?_
    refine wpAny_bind (Looks.here (Looks.of_peek K (seqi_list c)) ?_)
    exact wpAny_bind (wpAny_rule h)
theorem inplace_acc {c : Cx} {A : Around} {s : Shared} {a b dx : Addr} {vs : List Value} {n : Nat} {Q : Value → Shared → Prop} (K : (zK c.w.params).In s.heap) (ha : s.heap.get? a = some (accObj dx vs n))
    (h : wpAny (model pw c.w) A (call (.builtin "list.__iadd__") [.ref a, .ref b]) (fun v s' => v ≠ .notImplemented ∧ Q v s') noE s) : wpAny (model pw c.w) A (inplaceOp .Add (.ref a) (.ref b)) Q noE s := by
  unfold inplaceOp
  refine wpAny_holding (wpAny_bind (acc_type ha ?_))
  refine wpAny_bind (Looks.here (Looks.of_peek K (filli_acc c)) ?_)
  rw [if_pos rfl]
  refine wpAny_bind ?_
  unfold tryMethod
  refine wpAny_bind (acc_callSpecial ha K (id := "list.__iadd__") (by kernel_rfl) PySem.F.slot_list_iadd.bind (wpAny_mono h (fun v s' hv => ?_) fun _ _ x => x))
  obtain ⟨hn, hq⟩ := hv
  cases v <;> first
    | exact absurd rfl hn
    | exact wpAny_pure (wpAny_bind (wpAny_rule (wpAny_pure hq)))
theorem setItem_plain {prog : Program} {w : World} {A : Around} {E : Value → Shared → Prop} {s : Shared} {l : Addr} {items : Array Value} {k : Int} {t : Tok} {v : Value} {Q : Unit → Shared → Prop} (hl : IsL s.heap l items) (h0 : 0 ≤ k) (hfit : k < 2 ^ 63) (hn : k < items.size)
    (hQ : ∀ h', IsL h' l (items.setIfInBounds k.toNat v) → Heap.SameBut l s.heap h' → Q () { s with heap := h' }) : wpAny (model prog w) A (setItem (.ref l) (.int k t) v) Q E s := by
  have il := hl.il
  obtain ⟨ne, ho⟩ := id hl
  unfold setItem
  try with_reducible refine wpAny_holding ?_
  first | refine wpAny_bind (wpAny_pure ?_) | skip
  refine wpAny_bind (wpAny_sequenceKey il.typeIs (by decide) ?_)
  refine wpAny_bind (wpAny_callSpecial?_slot (name := Str.ofString "__setitem__") il.typeIs slot_list_setitem (wpAny_call_entry slot_list_setitem il.typeIs entry_list_setitem ?_ (args_list_setitem _ _ _)))
  show wpAny _ _ (Builtin.List.listSubscript? (.int k t) >>= _) _ _ s
  refine wpAny_bind (wpAny_listSubscript_int (fitsIndex_of h0 hfit) ?_)
  clear hfit
  obtain ⟨j, rfl⟩ := Int.eq_ofNat_of_zero_le h0
  have hj : j < items.size := by omega
  have hx' : items[j]? = some items[j] := Array.getElem?_eq_getElem hj
  show wpAny _ _ ((seqItemAt l j >>= fun r => pure (r.map (j, ·))) >>= _) _ _ s
  refine wpAny_bind (wpAny_bind (wpAny_seqItemAt ho rfl (wpAny_pure ?_)))
  rw [hx']
  show wpAny _ _ (setSeqItemAt l j v >>= _) _ _ s
  have hfin : IsL (s.heap.update l (Obj.mapSeq (·.setIfInBounds j v))) l (items.setIfInBounds j v) := ⟨_, Heap.get?_update_self _ ho rfl⟩
  refine wpAny_bind (wpAny_setSeqItemAt ho rfl ?_)
  first
    | exact wpAny_bind (wpAny_pure (wpAny_pure ⟨.none, rfl, wpAny_pure (hQ _ hfin (Heap.SameBut.update ..))⟩))
    | exact wpAny_pure ⟨.none, rfl, wpAny_pure (hQ _ hfin (Heap.SameBut.update ..))⟩
section
variable {c : Cx} {A : Around} {S : Sto} {a : St c S} {i : Nat} {u v : Value} {op : Operator} {Q : Value → Shared → Prop}
theorem augI_ok {m n k : Int} (ok : augOk op = true) (e : binI op m n = some k) (hu : a.v u (.int m)) (hv : a.v v (.int n)) (h : ∀ y (b : St c S), To [] a b → b.v y (.int k) → Q y b.s) : wpAny (model pw c.w) A (inplaceOp op u v) Q noE a.s := by
  obtain ⟨t, rfl⟩ := hu.int_
  obtain ⟨t', rfl⟩ := hv.int_
  have q : Q (.int k a.s.toks) { a.s with toks := a.s.toks + 1 } := h _ _ a.tok_to (.int _ _)
  cases op with
  | Add => cases e; exact PyProof.Rows.iadd_int q
  | Mult => obtain ⟨k, e⟩ := ite_some e; cases e; exact PyProof.Rows.imul_int q k
  | LShift => obtain ⟨k, e⟩ := ite_some e; cases e; exact ilshift_int k.1 k.2 q
  | RShift => obtain ⟨k, e⟩ := ite_some e; cases e; exact irshift_int k q
  | BitOr => cases e; exact ior_int q
  | BitAnd => cases e; exact iand_int q
  | _ => cases ok
theorem St.set1 (a : St c S) {o : Ho} {m' : M} {h' : Heap} {tk : Nat} (eo : a.G[i]? = some o) {m : M} (em : S[i]? = some m) (mo : m.open? = true) (hs : Heap.SameBut o.a a.s.heap h') (lv : ∃ ob, h'.get? o.a = some ob) (sat : (∀ v d, V a.wl a.s.heap v d → V a.wl h' v d) → Sat c a.wl h' o m') : ∃ b : St c (S.set i m'), b.s = { a.s with heap := h', toks := tk } ∧ To [] a b ∧ b.G = a.G :=
  ⟨a.write i m' o h' tk eo (fun b ob q e => (hs.2 b fun z => q (by rw [z]; exact .head _)).trans e) (fun z q => by
    by_cases w : z = o.a
    · rw [w]; exact lv
    · obtain ⟨ob, e⟩ := a.good.live z (a.good.own z (gad_of eo q))
      exact ⟨ob, (hs.2 z w).trans e⟩) sat, rfl, a.write_to em mo, rfl⟩
theorem augL_ok {m m' : M} {l : List D} (em : S[i]? = some m) (hm : m.ext l = some m') (hu : a.vv u (.ref i)) (hv : a.v v (.list l)) (h : ∀ y (b : St c (S.set i m')), To [] a b → b.vv y (.ref i) → Q y b.s) : wpAny (model pw c.w) A (inplaceOp .Add u v) Q noE a.s := by
  obtain ⟨o, eo, rfl⟩ := hu
  obtain ⟨b, ys, rfl, nb, ntb, jl, mv⟩ := hv.lst_
  have sat := a.good.sat.at_ em eo
  have hs := Heap.SameBut.update a.s.heap o.a (Obj.mapSeq (· ++ ys.toArray))
  have fin : m.open? = true → (∃ ob, (a.s.heap.update o.a (Obj.mapSeq (· ++ ys.toArray))).get? o.a = some ob) → ((∀ v d, V a.wl a.s.heap v d → V a.wl (a.s.heap.update o.a (Obj.mapSeq (· ++ ys.toArray))) v d) → Sat c a.wl (a.s.heap.update o.a (Obj.mapSeq (· ++ ys.toArray))) o m') → Q (.ref o.a) { a.s with heap := a.s.heap.update o.a (Obj.mapSeq (· ++ ys.toArray)) } := fun mo lv sat => by
    obtain ⟨d, hd, t, hG⟩ := a.set1 (tk := a.s.toks) eo em mo hs lv sat
    have := h (.ref o.a) d t ⟨o, hG ▸ eo, rfl⟩
    rw [hd] at this; exact this
  cases m with
  | list l0 =>
    obtain ⟨k, hm⟩ := ite_some hm
    cases hm
    obtain ⟨vs, il, lv⟩ := sat
    obtain ⟨nn, ho⟩ := id il
    have e2 : (a.s.heap.update o.a (Obj.mapSeq (· ++ ys.toArray))).get? o.a = _ := Heap.get?_update_self _ ho rfl
    refine inplace_list a.good.kin il.il jl (wpAny_call_entry PySem.F.slot_list_iadd il.il.typeIs PySem.F.entry_list_iadd (iadd_body ho rfl jl (by rw [lv.length, mv.length]; exact k) (fin rfl ⟨_, e2⟩ fun vk => ⟨vs ++ ys, ?_, (lv.append mv).imp vk⟩)) (PySem.F.args_list_iadd_2 _ _))
    exact ⟨_, by rw [e2]; simp only [Obj.mapSeq, List.append_toArray]; rfl⟩
  | acc l0 kk =>
    obtain ⟨k, hm⟩ := ite_some hm
    cases hm
    obtain ⟨dx, vs, nn, tt, tt', edx, ho, hdx, lv⟩ := sat
    have e2 : (a.s.heap.update o.a (Obj.mapSeq (· ++ ys.toArray))).get? o.a = _ := Heap.get?_update_self _ ho rfl
    have hda : dx ≠ o.a := fun q => by
      have n := (List.pairwise_flatMap.mp a.good.nd).1 o (List.mem_of_getElem? eo)
      rw [Ho.all, edx, q] at n
      exact (List.pairwise_cons.mp n).1 o.a (.head _) rfl
    obtain ⟨n', gs⟩ : ∃ n', (a.s.heap.update o.a (Obj.mapSeq (· ++ ys.toArray))).get? o.a = some (accObj dx (vs ++ ys) n') := ⟨_, by rw [e2]; simp only [accObj, Obj.mapSeq, List.append_toArray]; rfl⟩
    exact inplace_acc a.good.kin ho (slotA_iadd.call PySem.F.entry_list_iadd ho a.good.kin (PySem.F.args_list_iadd_2 _ _) (iadd_body ho rfl jl (by rw [lv.length, mv.length]; exact k) ⟨by simp, fin rfl ⟨_, e2⟩ fun vk => ⟨dx, vs ++ ys, n', tt, tt', edx, gs, (hs.2 _ hda).trans hdx, (lv.append mv).imp vk⟩⟩))
  | lock => cases hm
end
section
variable {f : Fr} {env : Env} {A : Around} {e e1 e2 : En} {S S1 S2 : Sto} {p q t : Pos} {v w a b : Val} {z : Fl × Sto} {x y : Expr} {ss body xs ys : List Stmt} {n : Str} {md : Bool} {l : List D} {d : D}
theorem own_nx {a0 : St f.c S} (P : Pre f env A a0 e) {a1 : St f.c S1} (t : To [] a0 a1) : To (own f.ks env) a0 a1 := t.wide P.fm.mem
theorem x_nil : EX f [] e S (.next e, S) := fun env A a Q P h => wpAny_execs_nil (h .next a (own_nx P (To.refl a)) ⟨rfl, P.fm⟩)
theorem x_cons {s : Stmt} (h1 : SX f s e S (.next e1, S1)) (h2 : EX f ss e1 S1 z) : EX f (s :: ss) e S z := fun env A a Q P h =>
  wpAny_execs_cons (h1 env A a _ P fun w b t1 fl => by
    obtain ⟨rfl, f1⟩ := fl
    exact h2 env A b _ ⟨P.room, f1⟩ fun w d t2 => h w d (t1.trans t2))
theorem x_last {s : Stmt} (hz : ∀ e, z.1 ≠ .next e) (h1 : SX f s e S z) : EX f (s :: ss) e S z := fun env A a Q P h =>
  wpAny_execs_cons (h1 env A a _ P fun w b t1 fl => by
    have h2 := h w b t1 fl
    cases hw : z.1 with
    | next e => exact (hz e hw).elim
    | cont e => rw [hw] at fl; obtain ⟨rfl, _⟩ := fl; exact h2
    | ret u => rw [hw] at fl; obtain ⟨u, rfl, _⟩ := fl; exact h2)
theorem x_return (h : EV f x e S (v, S1)) : EX f (.Return (some x) p :: ss) e S (.ret v, S1) := x_last (fun _ q => nomatch q) fun env A a Q P hh =>
  wpAny_Return_some (h env A a _ P fun u b t1 hv => hh (.ret u) b (own_nx P t1) ⟨u, rfl, hv⟩)
theorem x_contS : EX f (.Continue p :: ss) e S (.cont e, S) := x_last (fun _ q => nomatch q) fun env A a Q P hh =>
  wpAny_Continue (hh .cont a (own_nx P (To.refl a)) ⟨rfl, P.fm⟩)
theorem s_if {t0 : Expr} {c : Bool} (h1 : TV f t0 e S (c, S1)) (h2 : EX f (if c = true then xs else ys) e S1 z) : SX f (.If t0 xs ys p) e S z := fun env A a Q P h =>
  wpAny_If (h1 env A a _ P fun b t1 => by
    have := h2 env A b (fun w s => Q w s) (P.to t1) fun w d t2 => h w d ((own_nx P t1).trans t2)
    cases c <;> exact this)
theorem x_if {t0 : Expr} {c : Bool} (h1 : TV f t0 e S (c, S1)) (h2 : EX f (if c = true then xs else ys) e S1 (.next e2, S2)) (nx : EX f ss e2 S2 z) : EX f (.If t0 xs ys p :: ss) e S z := x_cons (s_if h1 h2) nx
theorem x_skip {t0 : Expr} (h1 : TV f t0 e S (false, S1)) (nx : EX f ss e S1 z) : EX f (.If t0 xs [] p :: ss) e S z := x_cons (s_if (c := false) h1 x_nil) nx
theorem x_ifr {t0 : Expr} (h1 : TV f t0 e S (true, S1)) (h2 : EX f xs e S1 (.ret v, S2)) : EX f (.If t0 xs ys p :: ss) e S (.ret v, S2) := x_last (fun _ q => nomatch q) (s_if (c := true) h1 h2)
theorem x_ifc {t0 : Expr} (h1 : TV f t0 e S (true, S1)) (h2 : EX f xs e S1 (.cont e2, S2)) : EX f (.If t0 xs ys p :: ss) e S (.cont e2, S2) := x_last (fun _ q => nomatch q) (s_if (c := true) h1 h2)
theorem s_for {tgt : Expr} (h1 : SRC f tgt x e S (l, S1, none)) (h2 : FG f tgt body l e S1 z) : SX f (.For tgt x body [] p) e S z := fun env A a Q P h =>
  wpAny_For (h1.2 env A a _ P fun b d it t1 _ t2 hi hz => forGo_ok P.room t2 hi hz ((P.fm.to t1).to t2) (fun y m => t1.sub y (P.fm.mem y m)) h2 fun w g t3 => h w g ((own_nx P t1).trans t3)) fun u => h1.1 env u
theorem x_for {tgt : Expr} (h1 : SRC f tgt x e S (l, S1, none)) (h2 : FG f tgt body l e S1 (.next e2, S2)) (nx : EX f ss e2 S2 z) : EX f (.For tgt x body [] p :: ss) e S z := x_cons (s_for h1 h2) nx
theorem interactive_fn {env : Env} (h : env.scope.kind = .function) : interactive env = false := by unfold interactive; rw [h]; rfl
theorem x_expr (hs : ∀ env, swapsWith x none p.line env = pure false) (h : EV f x e S (.d .none, S1)) (nx : EX f ss e S1 z) : EX f (.Expr x p :: ss) e S z := x_cons (fun env A a Q P hh =>
  wpAny_Expr (h env A a _ P fun u b t1 hv => by cases V.none_ hv; exact hh .next b (own_nx P t1) ⟨rfl, P.fm.to t1⟩) (interactive_fn P.fm.kind) (hs env)) nx
theorem x_asg (k : isVa f.ks n = true) (hs : ∀ env, swapsWith x (some (.Name n q)) p.line env = pure false) (h : EV f x e S (v, S1)) (nx : EX f ss (put n v e) S1 z) : EX f (.Assign [.Name n q] x p :: ss) e S z := x_cons (fun env A a Q P hh =>
  wpAny_Assign_Name (h env A a _ P fun u b t1 hv => (P.fm.to t1).store k (place_own (P.fm.to t1) k) (P.fm.to t1).mem hv fun d t2 f2 => hh .next d ((own_nx P t1).trans t2) ⟨rfl, f2⟩) (hs env)) nx
theorem x_aug {op : Operator} (k : isVa f.ks n = true) (hv : e n = some a) (h1 : EV f x e S (b, S1)) (h2 : ∀ (A : Around) (a0 : St f.c S1) (u1 u2 : Value) (Q : Value → Shared → Prop), a0.vv u1 a → a0.vv u2 b → (∀ y (d : St f.c S2), To [] a0 d → d.vv y w → Q y d.s) → wpAny (model pw f.c.w) A (inplaceOp op u1 u2) Q noE a0.s)
    (nx : EX f ss (put n w e) S2 z) : EX f (.AugAssign (.Name n q) op x p :: ss) e S z := x_cons (fun env A a0 Q P hh =>
  wpAny_AugAssign_Name (P.fm.load k hv fun u hu => h1 env A a0 _ P fun u2 b1 t1 hw => h2 A b1 u u2 _ (t1.vv hu) hw fun y d t2 hy => ((P.fm.to t1).to t2).store k (place_own (P.fm.to t1 |>.to t2) k) (P.fm.to t1 |>.to t2).mem hy fun g t3 f3 => hh .next g ((own_nx P (t1.trans t2)).trans t3) ⟨rfl, f3⟩)) nx
theorem x_augI {op : Operator} {i j m : Int} (k : isVa f.ks n = true) (hv : e n = some (.d (.int i))) (h1 : EV f x e S (.d (.int j), S1)) (ok : augOk op = true) (h2 : binI op i j = some m) (nx : EX f ss (put n (.d (.int m)) e) S1 z) : EX f (.AugAssign (.Name n q) op x p :: ss) e S z :=
  x_aug k hv h1 (fun _ _ _ _ _ hu hw => augI_ok ok h2 hu hw) nx
theorem x_augL {i : Nat} {m m' : M} (k : isVa f.ks n = true) (hv : e n = some (.ref i)) (h1 : EV f x e S (.d (.list l), S1)) (em : S1[i]? = some m) (h2 : m.ext l = some m') (nx : EX f ss (put n (.ref i) e) (S1.set i m') z) : EX f (.AugAssign (.Name n q) .Add x p :: ss) e S z :=
  x_aug k hv h1 (fun _ _ _ _ _ hu hw => augL_ok em h2 hu hw) nx
theorem x_unp {ts : List Expr} {kk : Nat} {ns : List Str} (hs : ∀ env, swapsWithSole [.Tuple ts kk q] x p.line env = pure false ∧ swappedStores [.Tuple ts kk q] x env = pure none) (hn : Nms ts ns) (k : ns.all (isVa f.ks) = true) (h : EV f x e S (.d (.list l), S1)) (hl : ns.length = l.length) (nx : EX f ss (putN ns (l.map .d) e) S1 z) : EX f (.Assign [.Tuple ts kk q] x p :: ss) e S z := x_cons (fun env A a Q P hh => by
  obtain ⟨a2, al, af, _, _⟩ := hn.inv (env := env)
  refine Assign_Tuple (h env A a _ P fun u b t1 hu => ?_) (hs env).1 (hs env).2
  obtain ⟨r, us, rfl, na, nt, il, lv⟩ := V.lst_ hu
  rw [arm_assign_Tuple]
  refine wpAny_bind (wpAny_standAt ?_)
  unfold unpack
  rw [show (assignEach ts env).length = us.toArray.size from (al.trans hl).trans lv.length.symm, af]
  refine wpAny_bind (wpAny_holding (kun_itemsOf P.room.hd il fun h' he => ?_))
  have t3 := b.keep_to (h' := h') (tk := b.s.toks) (k := fun b o e => he b o (lt_of_some e) e)
  have P3 := (P.to t1).to t3
  exact stores_ok a2 us (l.map .d) e (b.keep h' b.s.toks _) _ k (fun x m => place_own P3.fm (List.all_eq_true.mp k x m)) P3.fm.mem P3.fm (All2.map (fun _ _ y => y) (t3.vs lv)) (by rw [List.length_map]; exact hl) fun d t4 f4 => hh .next d (((own_nx P t1).trans (own_nx (P.to t1) t3)).trans t4) ⟨rfl, f4⟩) nx
theorem x_item {m : Str} {px py : Pos} {i : Nat} {j : Int} (k1 : isVa f.ks n = true) (v1 : e n = some (.ref i)) (k2 : isVa f.ks m = true) (v2 : e m = some (.d (.int j))) (hs : ∀ env t, swapsWith x (some (.Subscript (.Name n px) (.Name m py) t)) p.line env = pure false) (h1 : EV f x e S (.d d, S1)) (hS : S1[i]? = some (.list l)) (hj : 0 ≤ j ∧ j < 4096 ∧ j.toNat < l.length)
    (nx : EX f ss e (S1.set i (.list (l.set j.toNat d))) z) : EX f (.Assign [.Subscript (.Name n px) (.Name m py) q] x p :: ss) e S z := x_cons (fun env A a Q P hh =>
  wpAny_Assign_Subscript (h1 env A a _ P fun w b t1 hw => wpAny_Name ((P.fm.to t1).load k1 v1 fun u hu => wpAny_Name ((P.fm.to t1).load k2 v2 fun v hv => by
    obtain ⟨o, eo, rfl⟩ := hu
    obtain ⟨t, rfl⟩ := V.int_ hv
    obtain ⟨vs, il, lv⟩ := b.good.sat.at_ hS eo
    refine setItem_plain il hj.1 (i63 hj.2.1) (by have := lv.length; have := hj.2.2; simp; omega) fun h' il' hs' => ?_
    obtain ⟨g, hg, t2, _⟩ := b.set1 (tk := b.s.toks) (m' := .list (l.set j.toNat d)) eo hS rfl hs' (let ⟨_, e⟩ := il'; ⟨_, e⟩) fun vk => ⟨vs.set j.toNat w, by
      have : vs.toArray.setIfInBounds j.toNat w = (vs.set j.toNat w).toArray := by simp
      rw [← this]; exact il', (lv.imp vk).set2 (vk _ _ hw)⟩
    have := hh .next g (own_nx P (t1.trans t2)) ⟨rfl, P.fm.to (t1.trans t2)⟩
    rw [hg] at this; exact this) (isVa_inv k2).1) (isVa_inv k1).1) (hs env q)) nx
end
theorem Nms.filter {g : Expr → Option Str} (hg : ∀ x p y, g (.Name x p) = some y → y = x) {ts : List Expr} {xs : List Str} (h : Nms ts xs) : (ts.filterMap g).length = ts.length → ts.filterMap g = xs := by
  induction h with
  | nil => intro _; rfl
  | @cons x p es xs _ ih =>
    intro hl
    cases q : g (.Name x p) with
    | none =>
      rw [List.filterMap_cons_none q] at hl
      have := List.length_filterMap_le g es
      rw [hl] at this
      exact absurd this (Nat.not_succ_le_self _)
    | some y =>
      rw [List.filterMap_cons_some q] at hl ⊢
      rw [hg x p y q, ih (Nat.succ.inj hl)]
theorem swapped_cases {ts es : List Expr} {k k' : Nat} {p p' : Pos} {env : Env} {xs : List Str} (hn : Nms ts xs) (hc : (es.all (foldedForSure 8) || !es.all (constantsAlone 8)) = true) :
    swappedStores [.Tuple ts k p] (.Tuple es k' p') env = pure none ∨ swappedStores [.Tuple ts k p] (.Tuple es k' p') env = pure (some xs) := by
  unfold swappedStores
  dsimp only
  split
  · exact .inl rfl
  · split
    · exact .inl rfl
    · split
      · exact .inl rfl
      · rename_i hlen
        split
        · exact .inl rfl
        · rename_i hf
          split
          · rename_i hcc
            rw [Bool.eq_false_iff.mpr hf, hcc] at hc
            cases hc
          · right
            congr 2
            refine hn.filter (fun x p y hy => ?_) ?_
            · dsimp only at hy
              split at hy
              · exact (Option.some.inj hy).symm
              · cases hy
            · simp only [Bool.or_eq_true, bne_iff_ne, ne_eq, not_or, Decidable.not_not] at hlen
              exact hlen.1
section
variable {f : Fr} {env : Env} {A : Around} {e e1 e2 : En} {S S1 S2 : Sto} {p q t : Pos} {z : Fl × Sto} {x y : Expr} {ss body : List Stmt}
theorem x_tup {ts es : List Expr} {kk k' : Nat} {ns : List Str} {vs : List Val} (hn : Nms ts ns) (k : ns.all (isVa f.ks) = true) (h1 : VS f es e S (vs, S1)) (hc : (decide ns.Nodup && decide (ns.length ≤ 64) && (es.all (foldedForSure 8) || !es.all (constantsAlone 8))) = true) (hl : ns.length = vs.length) (nx : EX f ss (putN ns vs e) S1 z) : EX f (.Assign [.Tuple ts kk q] (.Tuple es k' t) p :: ss) e S z := x_cons (fun env A a Q P hh => by
  obtain ⟨hc, c3⟩ := Bool.and_eq_true_iff.mp hc
  obtain ⟨c1, c2⟩ := Bool.and_eq_true_iff.mp hc
  obtain ⟨a2, al, af, _, _⟩ := hn.inv (env := env)
  rw [PySem.exec_Assign_arm]
  refine wpAny_bind (wpAny_standAt (wpAny_bind (wpAny_pure (a := false) ?_)))
  rw [if_neg Bool.false_ne_true]
  refine wpAny_bind (wpAny_Tuple (h1.ok _ env A a _ P fun us b t1 vv => ?_))
  have hul : us.length = vs.length := All2.length vv
  have hsz : ns.length = us.toArray.size := hl.trans hul.symm
  refine ⟨by rw [hul, ← hl]; exact Nat.le_trans (of_decide_eq_true c2) (by decide), ?_⟩
  have t2 := b.push_to (tk := b.s.toks) (o := { cls := .type "tuple", data := .seq us.toArray })
  have it : (b.s.heap.push { cls := .type "tuple", data := .seq us.toArray }).IsTuple b.s.heap.objs.size us.toArray := ⟨_, Heap.get?_push_size _ rfl, rfl, _, rfl⟩
  have fin : ∀ (h' : Heap) (he : Heap.ExtBut (b.s.heap.push { cls := .type "tuple", data := .seq us.toArray }).objs.size (b.s.heap.push { cls := .type "tuple", data := .seq us.toArray }) h') {R : Unit → Shared → Prop} {stores : List (Value → Sem Unit)} {ns' : List Str} {us' : List Value} {vs' : List Val}, All2 (TS env) stores ns' → (∀ x ∈ ns', x ∈ ns) → All2 b.vv us' vs' → ns'.length = vs'.length → putN ns' vs' e = putN ns vs e → (∀ w s, Q .next s → R w s) →
      wpAny (model pw f.c.w) A (assignInOrder stores us') R noE { b.s with heap := h' } := by
    intro h' he R stores ns' us' vs' hst hm hv hll he2 hR
    have t3 := (b.push { cls := .type "tuple", data := .seq us.toArray } b.s.toks).keep_to (h' := h') (tk := b.s.toks) (k := fun b o e => he b o (lt_of_some e) e)
    have P3 := ((P.to t1).to t2).to t3
    exact stores_ok hst us' vs' e ((b.push { cls := .type "tuple", data := .seq us.toArray } b.s.toks).keep h' b.s.toks _) _ (List.all_eq_true.mpr fun x m => List.all_eq_true.mp k x (hm x m)) (fun x m => place_own P3.fm (List.all_eq_true.mp k x (hm x m))) P3.fm.mem P3.fm ((t2.trans t3).vvs hv) hll fun d t4 f4 => hR _ _ (hh .next d ((own_nx P ((t1.trans t2).trans t3)).trans t4) ⟨rfl, he2 ▸ f4⟩)
  rcases swapped_cases (k := kk) (k' := k') (p := q) (p' := t) (env := env) hn c3 with hw | hw
  · rw [hw]
    refine wpAny_bind (wpAny_pure ?_)
    show wpAny _ A (do assignAll (.ref b.s.heap.objs.size) [assign (.Tuple ts kk q) env]; pure .next) Q noE _
    exact wpAny_bind (wpAny_assign_Tuple P.room.hd it (al.trans hsz) af fun h' he => fin h' he a2 (fun _ m => m) vv hl rfl fun _ s => wpAny_pure)
  · rw [hw]
    refine wpAny_bind (wpAny_pure ?_)
    show wpAny _ A (do rule "assign.swapped-stores"; let items ← unpackItems (.ref b.s.heap.objs.size) ns.length none; assignInOrder (ns.reverse.map fun n => bindName env n) items.reverse; pure .next) Q noE _
    refine wpAny_bind (wpAny_rule (wpAny_bind ?_))
    rw [hsz]
    refine wpAny_unpackItems_tuple P.room.hd it fun h' he => ?_
    refine wpAny_bind (fin h' he (bind_ts _) (fun _ m => List.mem_reverse.mp m) (All2.rev vv) (by rw [List.length_reverse, List.length_reverse]; exact hl) (putN_rev (of_decide_eq_true c1) hl) fun _ s => wpAny_pure)) nx
inductive WG (f : Fr) (test : Expr) (body : List Stmt) : Nat → En → Sto → En × Sto → Prop
  | stop {n : Nat} {e : En} {S S1 : Sto} : TV f test e S (false, S1) → WG f test body n e S (e, S1)
  | next {n : Nat} {e e2 : En} {S S1 S2 : Sto} {z : En × Sto} : TV f test e S (true, S1) → EX f body e S1 (.next e2, S2) → WG f test body n e2 S2 z → WG f test body (n + 1) e S z
inductive WI (f : Fr) (env : Env) (test : Expr) (body : List Stmt) {S0 : Sto} (a : St f.c S0) (z : En × Sto) : Nat → Shared → Prop
  | mk {n : Nat} {e : En} {S : Sto} {b : St f.c S} : To (own f.ks env) a b → Fm f.ks env b e → WG f test body n e S z → WI f env test body a z n b.s
theorem x_while {test : Expr} {n : Nat} (h : WG f test body n e S (e2, S2)) (nx : EX f ss e2 S2 z) : EX f (.While test body [] p :: ss) e S z := x_cons (fun env A a Q P hh =>
  wpAny_While (codeAny_whileLoop (WI f env test body a (e2, S2)) (fun k sk hI => by
    cases hI with
    | @mk ek Sk b t0 f0 hG =>
    cases hG with
    | stop h1 =>
      refine wpAny_mono (h1 env A b (fun w s2 => w = false ∧ ∃ d : St f.c S2, To [] b d ∧ s2 = d.s) ⟨P.room, f0⟩ fun d t1 => ⟨rfl, d, t1, rfl⟩) (fun w s2 q => ?_) fun _ _ x => x.elim
      obtain ⟨rfl, d, t1, rfl⟩ := q
      exact wpAny_execs_nil (hh .next d (t0.trans (t1.wide f0.mem)) ⟨rfl, f0.to t1⟩)
    | @next n _ e3 _ S3 S4 _ h1 h2 h3 =>
      refine wpAny_mono (h1 env A b (fun w s2 => w = true ∧ ∃ d : St f.c S3, To [] b d ∧ s2 = d.s) ⟨P.room, f0⟩ fun d t1 => ⟨rfl, d, t1, rfl⟩) (fun w s2 q => ?_) fun _ _ x => x.elim
      obtain ⟨rfl, d, t1, rfl⟩ := q
      refine wpAny_mono (E := noE) (h2 env A d (fun fw s2 => fw = .next ∧ WI f env test body a (e2, S2) n s2) ⟨P.room, f0.to t1⟩ fun w g t2 fl => ⟨fl.1, .mk ((t0.trans (t1.wide f0.mem)).trans t2) fl.2 h3⟩) (fun fw s2 q => ?_) fun _ _ x => x.elim
      obtain ⟨rfl, q⟩ := q
      exact ⟨n, Nat.lt_succ_self _, q⟩) n (.mk (own_nx P (To.refl a)) P.fm h))) nx
end
def freeL (cells : List (Str × Addr)) (names : List (Str × NameKind)) : List (Str × Addr) :=
  (names.filter fun p => p.2 == .free).map fun p => (p.1, (cells.lookup p.1).getD 0)
theorem closureFor_eq {scope : Scope} {env : Env} (h : ∀ p ∈ scope.names, p.2 = .free → ∃ a, env.cells.lookup p.1 = some a) : closureFor scope env = pure (freeL env.cells scope.names).reverse := by
  have key : ∀ (names : List (Str × NameKind)) (acc : List (Str × Addr)), (∀ p ∈ names, p.2 = .free → ∃ a, env.cells.lookup p.1 = some a) →
      (forIn names acc (fun (x : Str × NameKind) (cs : List (Str × Addr)) => if (x.2 == NameKind.free) = true then (do let a ← cellOf env x.1; pure (ForInStep.yield ((x.1, a) :: cs))) else pure (ForInStep.yield cs)) : Sem (List (Str × Addr))) = pure ((freeL env.cells names).reverse ++ acc) := by
    intro names
    induction names with
    | nil => intro acc _; rfl
    | cons p ps ih =>
      intro acc hh
      obtain ⟨n, k⟩ := p
      rw [List.forIn_cons]
      have hps := ih
      by_cases hk : (k == NameKind.free) = true
      · obtain ⟨a, ha⟩ := hh (n, k) (.head _) (by simpa using hk)
        have hc : cellOf env n = pure a := by unfold cellOf; rw [ha]
        simp only [hk, if_true, hc]
        show (pure (ForInStep.yield ((n, a) :: acc)) >>= _ : Sem _) = _
        refine Eq.trans (hps ((n, a) :: acc) fun p m => hh p (.tail _ m)) ?_
        simp [freeL, hk, ha]
      · simp only [hk, if_false]
        refine Eq.trans (hps acc fun p m => hh p (.tail _ m)) ?_
        simp [freeL, hk]
  have := key scope.names [] h
  rw [List.append_nil] at this
  have e : closureFor scope env = ((forIn scope.names [] (fun (x : Str × NameKind) (cs : List (Str × Addr)) => if (x.2 == NameKind.free) = true then (do let a ← cellOf env x.1; pure (ForInStep.yield ((x.1, a) :: cs))) else pure (ForInStep.yield cs)) : Sem (List (Str × Addr))) >>= fun x => pure x) := rfl
  rw [e, this]; rfl
theorem cellsFrom_app : ∀ (names : List (Str × NameKind)) (n : Nat) (acc : List (Str × Addr)), cellsFrom n names acc = cellsFrom n names [] ++ acc
  | [], _, _ => rfl
  | (name, kind) :: r, n, acc => by
    unfold cellsFrom
    split
    · rw [cellsFrom_app r (n + 1) ((name, n) :: acc), cellsFrom_app r (n + 1) [(name, n)]]; simp
    · exact cellsFrom_app r n acc
theorem cellsFrom_mem : ∀ (names : List (Str × NameKind)) (n : Nat) {x : Str} {a : Addr}, (x, a) ∈ cellsFrom n names [] → (x, NameKind.cell) ∈ names
  | [], _, _, _, h => nomatch h
  | (name, kind) :: r, n, x, a, h => by
    unfold cellsFrom at h
    split at h
    · rename_i hk
      rw [cellsFrom_app] at h
      rcases List.mem_append.mp h with h | h
      · exact .tail _ (cellsFrom_mem r _ h)
      · rw [List.mem_singleton] at h; cases h
        have : kind = .cell := by simpa using hk
        rw [this]; exact .head _
    · exact .tail _ (cellsFrom_mem r _ h)
theorem cellsFrom_has : ∀ (names : List (Str × NameKind)) (n : Nat) {x : Str}, (x, NameKind.cell) ∈ names → ∃ a, (x, a) ∈ cellsFrom n names []
  | [], _, _, h => nomatch h
  | (name, kind) :: r, n, x, h => by
    unfold cellsFrom
    split
    · rw [cellsFrom_app]
      rcases List.mem_cons.mp h with e | h
      · cases e; exact ⟨n, List.mem_append_right _ (.head _)⟩
      · obtain ⟨a, ha⟩ := cellsFrom_has r (n + 1) h; exact ⟨a, List.mem_append_left _ ha⟩
    · rename_i hk
      rcases List.mem_cons.mp h with e | h
      · cases e; exact absurd rfl hk
      · exact cellsFrom_has r n h
theorem lookup_some_of_mem {α : Type} : ∀ {l : List (Str × α)} {x : Str} {a : α}, (x, a) ∈ l → ∃ b, l.lookup x = some b
  | (k, v) :: r, x, a, h => by
    rw [List.lookup_cons]
    cases hb : x == k with
    | true => exact ⟨v, rfl⟩
    | false =>
      rcases List.mem_cons.mp h with e | h
      · cases e; simp at hb
      · exact lookup_some_of_mem h
theorem names_one {names : List (Str × NameKind)} (nd : (names.map (·.1)).Nodup) {x : Str} {k k' : NameKind} (h : (x, k) ∈ names) (h' : (x, k') ∈ names) : k = k' := by
  induction names with
  | nil => cases h
  | cons p ps ih =>
    simp only [List.map_cons, List.nodup_cons] at nd
    rcases List.mem_cons.mp h with e | h <;> rcases List.mem_cons.mp h' with e' | h'
    · rw [← e'] at e; exact (Prod.mk.inj e).2
    · exact absurd (List.mem_map.mpr ⟨(x, k'), h', by rw [← e]⟩) nd.1
    · exact absurd (List.mem_map.mpr ⟨(x, k), h, by rw [← e']⟩) nd.1
    · exact ih nd.2 h h'
theorem lookup_map_key {g : Str → NameKind → NameKind} : ∀ {l : List (Str × NameKind)} {x : Str}, (l.map fun p => (p.1, g p.1 p.2)).lookup x = (l.lookup x).map (g x)
  | [], _ => rfl
  | (n, k) :: r, x => by
    simp only [List.map_cons, List.lookup_cons]
    cases hb : x == n with
    | true => rw [beq_iff_eq.mp hb]; rfl
    | false => exact lookup_map_key
theorem relabel_kind {scope : Scope} {env : Env} {x : Str} : (relabel scope env).names.lookup x = (scope.names.lookup x).map fun k => if (k == .free && env.scope.kind == .function && env.kindOf x == some .cell) = true then .cell else k := by
  have : (relabel scope env).names = scope.names.map fun p => (p.1, if (p.2 == .free && env.scope.kind == .function && env.kindOf p.1 == some .cell) = true then NameKind.cell else p.2) := by
    unfold relabel
    refine List.map_congr_left fun p _ => ?_
    obtain ⟨n, k⟩ := p
    dsimp only
    split <;> simp_all
  rw [this, lookup_map_key (g := fun n k => if (k == .free && env.scope.kind == .function && env.kindOf n == some .cell) = true then NameKind.cell else k)]
theorem wpAny_newComp {M : Model} {A : Around} {E : Value → Shared → Prop} {scope : Scope} {globals : Addr} {cl : List (Str × Addr)} {qual : Str} {env : Env} {s : Shared} {Q : Env → Shared → Prop}
    (h : Q { scope := scope, locals := s.heap.objs.size, globals := globals, cells := cellsFrom (s.heap.objs.size + 1) scope.names cl, qual := qual, func := none, code := env.code, frame := env.frame, builtins := env.builtins } { s with heap := pushCells (s.heap.push { cls := .type "dict", data := .dict #[] }) scope.names }) :
    wpAny M A (newFunctionEnv scope globals cl [] qual none .none (some env)) Q E s := by
  simp only [newFunctionEnv, Option.isSome_some, if_true]
  refine wpAny_bind (wpAny_alloc ?_)
  refine wpAny_bind (wpAny_layCells _ (fun name kind cells => by cases hkc : kind == NameKind.cell <;> simp [hkc]) _ _ _ _ ?_)
  rw [show ({ s with heap := s.heap.push { cls := .type "dict", data := .dict #[] } } : Shared).heap.objs.size = s.heap.objs.size + 1 from Heap.size_push ..]
  exact wpAny_bind (wpAny_pure (wpAny_pure h))
theorem freeL_nd {c : Cx} {ks : List (Str × EK)} {env : Env} {S : Sto} {a : St c S} {e : En} {names : List (Str × NameKind)} (nd : (names.map (·.1)).Nodup) (f : Fm ks env a e) (h : ∀ p ∈ names, p.2 = .free → ks.lookup p.1 = some .ce) : ((freeL env.cells names).map (·.2)).Nodup := by
  unfold freeL
  rw [List.map_map]
  have nd' : (names.filter fun p => p.2 == .free).Pairwise fun p q => p.1 ≠ q.1 := (List.pairwise_map.mp nd).sublist List.filter_sublist
  refine List.pairwise_map.mpr (nd'.imp_of_mem fun {p q} hp hq hne w => hne ?_)
  have key : ∀ {p : Str × NameKind}, p ∈ (names.filter fun p => p.2 == .free) → (p.1, (env.cells.lookup p.1).getD 0) ∈ env.cells.filter fun p => ks.lookup p.1 == some .ce := fun {p} m => by
    have hk := h p (List.mem_filter.mp m).1 (beq_iff_eq.mp (List.mem_filter.mp m).2)
    obtain ⟨z, _, e1, _⟩ := f.cl _ hk
    exact List.mem_filter.mpr ⟨by rw [e1]; exact mem_of_lookup e1, by rw [hk]; rfl⟩
  exact name_of_addr (List.pairwise_map.mp (List.nodup_cons.mp f.nd).2) (key hp) (by
    have := key hq
    rw [← show (env.cells.lookup p.1).getD 0 = (env.cells.lookup q.1).getD 0 from w] at this
    exact this)
theorem ksOf_lookup {sc : Scope} {x : Str} : (ksOf sc).lookup x = (sc.names.lookup x).map kindE := by
  unfold ksOf
  generalize sc.names = l
  induction l with
  | nil => rfl
  | cons p l ih =>
    obtain ⟨n, k⟩ := p
    simp only [List.map_cons, List.lookup_cons]
    cases hb : x == n with
    | true => rfl
    | false => exact ih
theorem ks_inv {sc : Scope} {ks : List (Str × EK)} {x : Str} {k : EK} (ok : compFree sc ks = true) (h : (ksOf sc).lookup x = some k) : ∃ nk, sc.names.lookup x = some nk ∧ kindE nk = k ∧ (match nk with
    | .free => ks.lookup x = some .ce
    | .globalExplicit => False
    | _ => True) := by
  rw [ksOf_lookup] at h
  obtain ⟨nk, h1, h2⟩ := ms h
  have := List.all_eq_true.mp ok _ (mem_of_lookup h1)
  refine ⟨nk, h1, h2, ?_⟩
  cases nk with
  | free => exact beq_iff_eq.mp this
  | globalExplicit => cases this
  | _ => trivial
theorem relab {sc : Scope} {env : Env} {x : Str} {nk : NameKind} (h : sc.names.lookup x = some nk) : (relabel sc env).names.lookup x = some (if (nk == .free && env.scope.kind == .function && env.kindOf x == some .cell) = true then .cell else nk) := by
  rw [relabel_kind, h]; rfl
section
variable {c : Cx} {ks : List (Str × EK)} {env : Env} {S : Sto} {a : St c S} {e : En} {sc : Scope} {A : Around} {Q : Env → Shared → Prop}
structure CF (ks : List (Str × EK)) (env : Env) (sc : Scope) (a : St c S) (e : En) (cenv : Env) (Z : List Addr) (b : St c S) : Prop where
  t : To [] a b
  wl : b.wl = Z ++ a.wl
  G : b.G = a.G
  fm : Fm (ksOf sc) { cenv with scope := relabel sc env } b (freeE sc e)
  loc : cenv.locals ∈ Z
  new : ∀ z ∈ Z, a.s.heap.get? z = none
  own : ∀ z ∈ own (ksOf sc) { cenv with scope := relabel sc env }, z ∈ Z ∨ z ∈ own ks env
  pl : ∀ x, (sc.names.lookup x = some .local ∨ sc.names.lookup x = some .cell) → place { cenv with scope := relabel sc env } x ∈ Z
theorem comp_frame (f : Fm ks env a e) (hk : sc.kind = .function) (nd : (sc.names.map (·.1)).Nodup) (okf : compFree sc ks = true) (h : ∀ cenv Z (b : St c S), CF ks env sc a e cenv Z b → Q cenv b.s) :
    closureFor sc env = pure (freeL env.cells sc.names).reverse ∧ wpAny (model pw c.w) A (newFunctionEnv sc env.globals (freeL env.cells sc.names).reverse [] env.qual none .none (some env)) Q noE a.s := by
  have hfree : ∀ p ∈ sc.names, p.2 = .free → ks.lookup p.1 = some .ce := fun p m hp => by
    have := List.all_eq_true.mp okf p m
    rw [hp] at this
    exact beq_iff_eq.mp this
  have hcell : ∀ p ∈ sc.names, p.2 = .free → ∃ z, env.cells.lookup p.1 = some z := fun p m hp => let ⟨z, _, e, _⟩ := f.cl _ (hfree p m hp); ⟨z, e⟩
  refine ⟨closureFor_eq hcell, wpAny_newComp ?_⟩
  have ok := cellsFrom_ok sc.names (a.s.heap.push { cls := .type "dict", data := .dict #[] }) (a.s.heap.objs.size + 1) [] ⟨fun _ _ hm => (nomatch hm), List.Pairwise.nil⟩ (by rw [Heap.size_push]; exact Nat.le_refl _)
  rw [Heap.size_push] at ok
  have keep1 : ∀ b o, a.s.heap.get? b = some o → (pushCells (a.s.heap.push { cls := .type "dict", data := .dict #[] }) sc.names).get? b = some o := fun b o e => pushCells_keeps _ _ b o (Heap.get?_push_of_some _ e)
  have nokey : ∀ {x z}, (x, z) ∈ cellsFrom (a.s.heap.objs.size + 1) sc.names [] → (x, NameKind.cell) ∈ sc.names := fun m => cellsFrom_mem sc.names _ m
  have nhas : ∀ {x}, (x, NameKind.cell) ∈ sc.names → ∃ z, (cellsFrom (a.s.heap.objs.size + 1) sc.names []).lookup x = some z := fun m => let ⟨z, hz⟩ := cellsFrom_has sc.names _ m; lookup_some_of_mem hz
  rw [cellsFrom_app]
  generalize cellsFrom (a.s.heap.objs.size + 1) sc.names [] = N at ok nokey nhas
  have nsC : (pushCells (a.s.heap.push { cls := .type "dict", data := .dict #[] }) sc.names).Ns a.s.heap.objs.size fun _ => none := (Heap.Ns.new a.s.heap (.type "dict")).keeps (pushCells_keeps _ _)
  have al : ∀ z ∈ a.s.heap.objs.size :: N.map (·.2), a.s.heap.objs.size ≤ z ∧ ∃ ob, (pushCells (a.s.heap.push { cls := .type "dict", data := .dict #[] }) sc.names).get? z = some ob := by
    refine all_c ⟨Nat.le_refl _, let ⟨o, _, _, e, _⟩ := nsC; ⟨o, e⟩⟩ fun z m => ?_
    obtain ⟨⟨n, z'⟩, hm, rfl⟩ := List.mem_map.mp m
    obtain ⟨⟨o, e, _⟩, hl⟩ := ok.empty n z' hm
    exact ⟨Nat.le_of_succ_le hl, _, e⟩
  have new : ∀ z ∈ a.s.heap.objs.size :: N.map (·.2), a.s.heap.get? z = none := fun z m => Heap.get?_none_of_le (al z m).1
  have hfr : ∀ {x z}, (x, z) ∈ (freeL env.cells sc.names).reverse → env.cells.lookup x = some z ∧ ks.lookup x = some .ce := by
    intro x z m
    rw [List.mem_reverse] at m
    obtain ⟨p, hp, e⟩ := List.mem_map.mp m
    obtain ⟨hp1, hp2⟩ := List.mem_filter.mp hp
    obtain ⟨b, hb⟩ := hcell p hp1 (beq_iff_eq.mp hp2)
    cases e
    exact ⟨by rw [hb]; rfl, hfree p hp1 (beq_iff_eq.mp hp2)⟩
  have fo : ∀ z ∈ (freeL env.cells sc.names).reverse.map (·.2), z ∈ own ks env := fun z m => by
    obtain ⟨⟨x, z'⟩, hm, rfl⟩ := List.mem_map.mp m
    exact own_cell (hfr hm).1 (hfr hm).2
  have ownZ : ∀ z ∈ own (ksOf sc) { ({ scope := sc, locals := a.s.heap.objs.size, globals := env.globals, cells := N ++ (freeL env.cells sc.names).reverse, qual := env.qual, func := none, code := env.code, frame := env.frame, builtins := env.builtins } : Env) with scope := relabel sc env }, z ∈ a.s.heap.objs.size :: N.map (·.2) ∨ z ∈ own ks env := fun z m => by
    rcases List.mem_cons.mp m with rfl | m
    · exact .inl (.head _)
    · obtain ⟨p, hp, rfl⟩ := List.mem_map.mp m
      exact (List.mem_append.mp (List.mem_filter.mp hp).1).imp (fun q => .tail _ (List.mem_map.mpr ⟨p, q, rfl⟩)) fun q => fo _ (List.mem_map.mpr ⟨p, q, rfl⟩)
  have nog : ∀ z ∈ a.s.heap.objs.size :: N.map (·.2), z ∉ a.wl := fun z m q => a.good.no q (new z m)
  have hce : ∀ {x}, sc.names.lookup x = some .cell → ∃ z, (N ++ (freeL env.cells sc.names).reverse).lookup x = some z ∧ (x, z) ∈ N := fun h => by
    obtain ⟨z, hz⟩ := nhas (mem_of_lookup h)
    exact ⟨z, by rw [List.lookup_append, hz]; rfl, mem_of_lookup hz⟩
  have hfe : ∀ {x}, sc.names.lookup x = some .free → ∃ z, (N ++ (freeL env.cells sc.names).reverse).lookup x = some z ∧ env.cells.lookup x = some z := fun {x} h => by
    have hm : (x, (env.cells.lookup x).getD 0) ∈ (freeL env.cells sc.names).reverse := List.mem_reverse.mpr (List.mem_map.mpr ⟨(x, .free), List.mem_filter.mpr ⟨mem_of_lookup h, rfl⟩, rfl⟩)
    obtain ⟨z, hz⟩ := lookup_some_of_mem hm
    have hn : N.lookup x = none := by
      cases q : N.lookup x with
      | none => rfl
      | some b => exact nomatch names_one nd (mem_of_lookup h) (nokey (mem_of_lookup q))
    exact ⟨z, by rw [List.lookup_append, hn, hz]; rfl, (hfr (mem_of_lookup hz)).1⟩
  refine h _ (a.s.heap.objs.size :: N.map (·.2)) (a.adopt _ _ a.s.toks keep1 al) ⟨a.adopt_to, rfl, rfl, ?_, .head _, new, ownZ, fun x hx => ?_⟩
  · refine { kind := hk, globals := f.globals, builtins := f.builtins, mem := fun z m => (ownZ z m).elim (List.mem_append_left _) fun q => List.mem_append_right _ (f.mem z q), nd := ?_, apart := fun z m => (ownZ z m).elim (fun q w => nog z q (a.good.own z w)) (f.apart z), lo := fun x hx => ?_, ce := fun x hx => ?_, gl := fun x hx => ?_, ns := ⟨_, nsC, fun x v hx hv => ?_⟩, cl := fun x hx => ?_ }
    · have ndN : (N.map (·.2)).Nodup := List.pairwise_map.mpr ok.apart
      have ndF : ((freeL env.cells sc.names).reverse.map (·.2)).Nodup := by
        rw [List.map_reverse]
        refine List.pairwise_reverse.mpr ((freeL_nd nd f hfree).imp Ne.symm)
      have nda : ((N ++ (freeL env.cells sc.names).reverse).map (·.2)).Nodup := by
        rw [List.map_append]
        exact List.nodup_append.mpr ⟨ndN, ndF, fun z hz y hy w => nog z (.tail _ hz) (f.mem _ (fo _ (w ▸ hy)))⟩
      refine List.nodup_cons.mpr ⟨fun m => ?_, nda.sublist (List.Sublist.map _ List.filter_sublist)⟩
      obtain ⟨p, hp, w⟩ := List.mem_map.mp m
      replace w : p.2 = a.s.heap.objs.size := w
      rcases List.mem_append.mp (List.mem_filter.mp hp).1 with q | q
      · exact Nat.lt_irrefl _ (w ▸ (ok.empty p.1 p.2 q).2 : a.s.heap.objs.size < a.s.heap.objs.size)
      · exact nog _ (.head _) (w ▸ f.mem _ (fo _ (List.mem_map.mpr ⟨p, q, rfl⟩)))
    · obtain ⟨nk, h1, h2, h3⟩ := ks_inv okf hx
      refine (relab h1).trans ?_
      cases nk <;> first | rfl | (cases h2; done) | exact h3.elim
    · obtain ⟨nk, h1, h2, h3⟩ := ks_inv okf hx
      refine (relab h1).trans ?_
      cases nk <;> first | rfl | (cases h2; done) | skip
      rw [f.kind, f.ce x h3]; rfl
    · obtain ⟨nk, h1, h2, h3⟩ := ks_inv okf hx
      refine (relab h1).trans ?_
      cases nk <;> first | rfl | (cases h2; done)
    · obtain ⟨nk, h1, h2, h3⟩ := ks_inv okf hx
      unfold freeE at hv
      rw [h1] at hv
      cases nk <;> first | cases hv | cases h2
    · obtain ⟨nk, h1, h2, h3⟩ := ks_inv okf hx
      cases nk <;> first | (cases h2; done) | skip
      · obtain ⟨z, e1, e2⟩ := hce h1
        exact ⟨z, none, e1, (ok.empty x z e2).1, fun v hv => by unfold freeE at hv; rw [h1] at hv; cases hv⟩
      · obtain ⟨z, e1, e2⟩ := hfe h1
        obtain ⟨z', w, e3, e4, e5⟩ := f.cl x h3
        cases Option.some.inj (e2.symm.trans e3)
        exact ⟨z, w, e1, cell_at (keep1 z) e4, fun v hv => by
          unfold freeE at hv
          rw [h1] at hv
          obtain ⟨u, e6, e7⟩ := e5 v hv
          exact ⟨u, e6, a.adopt_to.vv e7⟩⟩
  · show (if (relabel sc env).names.lookup x = some NameKind.local then a.s.heap.objs.size else ((N ++ (freeL env.cells sc.names).reverse).lookup x).getD 0) ∈ _
    rcases hx with hx | hx
    · have e1 : (relabel sc env).names.lookup x = some .local := relab hx
      rw [if_pos e1]; exact .head _
    · have e1 : (relabel sc env).names.lookup x = some .cell := relab hx
      obtain ⟨z, e2, e3⟩ := hce hx
      rw [if_neg (by rw [e1]; decide), e2]
      exact .tail _ (List.mem_map.mpr ⟨(x, z), e3, rfl⟩)
end
def AccAt {c : Cx} {S : Sto} (b : St c S) (z : Addr) (acc : List D) : Prop := z ∈ b.wl ∧ z ∉ gad b.G ∧ ∃ vs, IsL b.s.heap z vs.toArray ∧ b.vs vs acc
theorem AccAt.to {c : Cx} {S S' : Sto} {X : List Addr} {a : St c S} {b : St c S'} {z : Addr} {acc : List D} (x : AccAt a z acc) (t : To X a b) (n : z ∉ X) : AccAt b z acc := by
  obtain ⟨h1, h2, vs, ⟨m, e⟩, hv⟩ := x
  exact ⟨t.sub z h1, t.gnew h2 h1, vs, ⟨m, t.eff z _ (fun q => (List.mem_append.mp q).elim n fun w => h2 (W_sub w)) (a.good.off h1) e⟩, t.vs hv⟩
def turnOf (p : Pos) (tgt : Expr) (it : Value) (ifs : List Expr) (env : Env) (emit : Sem PySem.Fin → Sem PySem.Fin) (c0 : Code) : Sem PySem.Fin := do
  standAt p
  match ← pyNext it with
  | none => pure (.done .next)
  | some v =>
    letOwnedTupleGo tgt it v
    assign tgt env v
    let ok ← forIn ifs true fun c r => if r = true then do let ok ← isTrue c env (eval c env); pure (ForInStep.yield ok) else pure (ForInStep.yield r)
    if ok = true then emit (again c0) else again c0
theorem tests_false {c : Cx} {A : Around} {env : Env} {s : Shared} {Q : Bool → Shared → Prop} (h : Q false s) (ifs : List Expr) : wpAny (model pw c.w) A (forIn ifs false fun c r => if r = true then do let ok ← isTrue c env (eval c env); pure (ForInStep.yield ok) else pure (ForInStep.yield r)) Q noE s := by
  induction ifs with
  | nil => exact wpAny_pure h
  | cons x xs ih => rw [List.forIn_cons]; exact wpAny_bind (wpAny_pure ih)
theorem AT.tests {f : Fr} {ifs : List Expr} {e : En} {S : Sto} {z : Bool × Sto} (H : AT f .And ifs e S z) : ∀ (env : Env) (A : Around) (a : St f.c S) (Q : Bool → Shared → Prop), Pre f env A a e → (∀ b : St f.c z.2, To [] a b → Q z.1 b.s) →
    wpAny (model pw f.c.w) A (forIn ifs true fun c r => if r = true then do let ok ← isTrue c env (eval c env); pure (ForInStep.yield ok) else pure (ForInStep.yield r)) Q noE a.s := by
  induction H with
  | nil => exact fun env A a Q P h => wpAny_pure (h a (To.refl a))
  | stop h1 hb =>
    intro env A a Q P h
    subst hb
    rw [List.forIn_cons]
    exact wpAny_bind (wpAny_bind (h1 env A a _ P fun b t1 => wpAny_pure (tests_false (h b t1) _)))
  | go h1 hb _ ih =>
    intro env A a Q P h
    subst hb
    rw [List.forIn_cons]
    exact wpAny_bind (wpAny_bind (h1 env A a _ P fun b t1 => wpAny_pure (ih env A b Q (P.to t1) fun d t2 => h d (t1.trans t2))))
inductive CL (g : Fr) (B : En → List D → Prop) (tgt : Expr) (ifs : List Expr) (J : En → Prop) (S : Sto) : List D → List D → Prop
  | nil : CL g B tgt ifs J S [] []
  | yes {x : D} {ys l m : List D} : (∀ e, J e → ∃ e1, Asg g.ks tgt x e e1 ∧ J e1 ∧ AT g .And ifs e1 S (true, S) ∧ B e1 ys) → CL g B tgt ifs J S l m → CL g B tgt ifs J S (x :: l) (ys ++ m)
  | no {x : D} {l m : List D} : (∀ e, J e → ∃ e1, Asg g.ks tgt x e e1 ∧ J e1 ∧ AT g .And ifs e1 S (false, S)) → CL g B tgt ifs J S l m → CL g B tgt ifs J S (x :: l) m
theorem CL.inv {g : Fr} {B : En → List D → Prop} {tgt : Expr} {ifs : List Expr} {J : En → Prop} {S : Sto} {l m : List D} (h : CL g B tgt ifs J S l m) : match (motive := List D → Prop) l with
    | [] => m = []
    | x :: l => ∃ w ys m', m = ys ++ m' ∧ CL g B tgt ifs J S l m' ∧ (w = false → ys = []) ∧ ∀ e, J e → ∃ e1, Asg g.ks tgt x e e1 ∧ J e1 ∧ AT g .And ifs e1 S (w, S) ∧ (w = true → B e1 ys) := by
  cases h with
  | nil => rfl
  | yes k r => exact ⟨true, _, _, rfl, r, (fun q => nomatch q), fun e j => let ⟨e1, a, b, d, q⟩ := k e j; ⟨e1, a, b, d, fun _ => q⟩⟩
  | no k r => exact ⟨false, [], _, rfl, r, fun _ => rfl, fun e j => let ⟨e1, a, b, d⟩ := k e j; ⟨e1, a, b, d, fun q => nomatch q⟩⟩
section
variable {g : Fr} {cenv : Env} {A : Around} {tgt : Expr} {ifs : List Expr} {S S0 : Sto} {J : En → Prop} {B : En → List D → Prop} {dx : Addr} {Z Y : List Addr} {emit : Sem PySem.Fin → Sem PySem.Fin}
def BodyOk (g : Fr) (cenv : Env) (A : Around) (J : En → Prop) (S : Sto) (B : En → List D → Prop) (dx : Addr) (Z : List Addr) (emit : Sem PySem.Fin → Sem PySem.Fin) : Prop :=
  ∀ (e : En) (acc ys : List D) (b : St g.c S) (k : Sem PySem.Fin) (Q : PySem.Fin → Shared → Prop) (E : Value → Shared → Prop), B e ys → J e → acc.length + ys.length ≤ sizeLine → Fm g.ks cenv b e → AccAt b dx acc → (∀ z ∈ dx :: Z, z ∈ b.wl ∧ z ∉ gad b.G) →
    (∀ (d : St g.c S) (e' : En), To (dx :: Z) b d → Fm g.ks cenv d e' → J e' → AccAt d dx (acc ++ ys) → wpAny (model pw g.c.w) A k Q E d.s) → wpAny (model pw g.c.w) A (emit k) Q E b.s
inductive CI (g : Fr) (cenv : Env) (B : En → List D → Prop) (tgt : Expr) (ifs : List Expr) (J : En → Prop) (dx : Addr) (X : List Addr) {S : Sto} (a : St g.c S) (it : Itr) (L all : List D) : Nat → Shared → Prop
  | mk {i : Nat} {e : En} {acc m : List D} {b : St g.c S} : i ≤ L.length → it.St i b.s.heap → To X a b → Fm g.ks cenv b e → J e → AccAt b dx acc → CL g B tgt ifs J S (L.drop i) m → acc ++ m = all → CI g cenv B tgt ifs J dx X a it L all (L.length + 1 - i) b.s
theorem cloop_ok (room : Room (12 + g.k) A) {c0 : Code} {p : Pos} {it : Itr} (hq : c0.quiet = true) (hund : A.under c0 = A) (hden : (model pw g.c.w).den c0 = (turnOf p tgt (.ref it.I) ifs cenv emit c0).onRaise (fun x => do noteFrame x cenv; theTreesLotGoes x))
    (hO : ∀ x ∈ tnames tgt, place cenv x ∈ Z) (hbody : BodyOk g cenv A J S B dx Z emit) {a0 : St g.c S} {a : St g.c S} {L : List D} {e : En} {acc0 m : List D} (t0 : To [] a0 a) (x : ItAt A tgt a it L) (hz : ∀ y ∈ it.wr, a0.s.heap.get? y = none) (fm : Fm g.ks cenv a e) (hJ : J e) (ha : AccAt a dx acc0)
    (hZ : ∀ z ∈ dx :: Z, z ∈ a.wl ∧ z ∉ gad a.G ∧ z ∉ it.fp ∧ (z ∈ Y ∨ a0.s.heap.get? z = none)) (hY : ∀ z ∈ Y, z ∈ a0.wl) (hown : ∀ z ∈ own g.ks cenv, z ∉ it.wr) (hdz : dx ∉ Z) (hC : CL g B tgt ifs J S L m) (hl : acc0.length + m.length ≤ sizeLine) {R : Result → Shared → Prop}
    (h : ∀ (b : St g.c S) (e' : En), To Y a0 b → Fm g.ks cenv b e' → J e' → AccAt b dx (acc0 ++ m) → (∀ z ∈ dx :: Z, z ∈ b.wl) → R (.ok .next) b.s) : codeAny (model pw g.c.w) A c0 R a.s := by
  have zwr : ∀ z ∈ dx :: Z, z ∉ it.wr := fun z m q => (hZ z m).2.2.1 (x.turns.sub z q)
  have xsw : ∀ {b : St g.c S}, (∀ z ∈ a.wl, z ∈ b.wl) → ∀ z ∈ (dx :: Z) ++ it.wr, z ∈ b.wl := fun k z m => (List.mem_append.mp m).elim (fun q => k z (hZ z q).1) fun q => k z (x.wro z q).1
  have wX : ∀ z ∈ it.wr, z ∈ (dx :: Z) ++ it.wr := fun z m => List.mem_append_right _ m
  have zX : ∀ z ∈ dx :: Z, z ∈ (dx :: Z) ++ it.wr := fun z m => List.mem_append_left _ m
  have up : ∀ {b d : St g.c S}, To ((dx :: Z) ++ it.wr) a b → To (dx :: Z) b d → To ((dx :: Z) ++ it.wr) a d := fun t u => t.trans (u.mono zX (xsw t.sub))
  have zb : ∀ {b : St g.c S}, To ((dx :: Z) ++ it.wr) a b → ∀ z ∈ dx :: Z, z ∈ b.wl ∧ z ∉ gad b.G := fun t z q => ⟨t.sub z (hZ z q).1, t.gnew (hZ z q).2.1 (hZ z q).1⟩
  refine codeAny_loop hq (CI g cenv B tgt ifs J dx ((dx :: Z) ++ it.wr) a it L (acc0 ++ m)) ?_ (L.length + 1) (.mk (i := 0) (Nat.zero_le _) x.st ((To.refl a).wide (xsw fun _ m => m)) fm hJ ha hC rfl)
  intro k' sk hI
  cases hI with
  | @mk i ek acc m' b hi hst tk fk jk ak hG hall =>
  rw [hund, hden]
  refine wpAny_noted ?_
  unfold turnOf
  refine wpAny_bind (wpAny_standAt ?_)
  by_cases hlt : i < L.length
  · rw [List.drop_eq_getElem_cons hlt] at hG
    obtain ⟨w, ys, m2, rfl, hG, hw, step⟩ := hG.inv
    obtain ⟨e1, h1, j1, h2, h3⟩ := step ek jk
    refine wpAny_bind (x.turn tk wX hlt hst fun v s1 go => wpAny_bind (go _ _ fun d td hd itm => ?_))
    have td' := tk.trans (td.mono wX (xsw tk.sub))
    have fd := fk.toX td hown
    refine wpAny_bind (wpAny_mono (asg_at (A := A) (O := Z) h1 (fun y m _ => hO y m) (fun z q => (zb td' z (.tail _ q)).1) ⟨room, fd⟩ itm (Q := fun _ s2 => wpAny (model pw g.c.w) A _ _ _ s2) fun d2 t2 f2 => ?_) (fun _ _ x => x) fun _ _ x => x.elim)
    have t2' : To (dx :: Z) d d2 := t2.mono (fun z q => .tail _ q) fun z q => (zb td' z q).1
    refine wpAny_bind (wpAny_mono (h2.tests cenv A d2 (fun ok s4 => wpAny (model pw g.c.w) A _ _ _ s4) ⟨room, f2⟩ fun d3 t3 => ?_) (fun _ _ x => x) fun _ _ x => x.elim)
    have t3' : To (dx :: Z) d d3 := t2'.trans (t3.wide fun z q => t2'.sub z (zb td' z q).1)
    have a3 : AccAt d3 dx acc := ((ak.to td (zwr dx (.head _))).to t2 hdz).to t3 fun q => nomatch q
    have fin : ∀ {d4 : St g.c S} {e4 : En} {acc4 : List D}, To (dx :: Z) d d4 → Fm g.ks cenv d4 e4 → J e4 → AccAt d4 dx acc4 → acc4 ++ m2 = acc0 ++ m → ∃ n, n < L.length + 1 - i ∧ CI g cenv B tgt ifs J dx ((dx :: Z) ++ it.wr) a it L (acc0 ++ m) n d4.s :=
      fun t4 f4 j4 a4 e4 => ⟨L.length + 1 - (i + 1), by omega, .mk hlt (x.turns.frame (i + 1) _ _ hd fun y q o ho => t4.eff y o (fun r => by
        obtain ⟨⟨ob, ey⟩, hw, _, _⟩ := x.fpo y q
        exact (List.mem_append.mp r).elim (fun r => (hZ y r).2.2.1 q) fun r => (td'.wn y r).elim hw (no_some ey)) (x.fpo y q).2.2.1 ho) (up td' t4) f4 j4 a4 hG e4⟩
    cases w with
    | false =>
      cases hw rfl
      exact wpAny_pure ⟨rfl, fin t3' (f2.to t3) j1 a3 hall⟩
    | true =>
      have hlen : acc.length + ys.length ≤ sizeLine := by
        have := congrArg List.length hall
        simp only [List.length_append] at this
        omega
      exact hbody e1 acc ys d3 _ _ _ (h3 rfl) j1 hlen (f2.to t3) a3 (zb (up td' t3')) fun d4 e4 t4 f4 j4 a4 => wpAny_pure ⟨rfl, fin (t3'.trans t4) f4 j4 a4 (by rw [List.append_assoc]; exact hall)⟩
  · have hie : i = L.length := Nat.le_antisymm hi (Nat.le_of_not_lt hlt)
    rw [hie, List.drop_length] at hG
    have hG := hG.inv
    subst hG
    refine wpAny_bind (x.done tk (hie ▸ hst) fun h1 tk1 zw zg hs => wpAny_pure ?_)
    refine h _ ek (To.last (t0.after tk (fun z q => (List.mem_append.mp q).elim (fun r => (hZ z r).2.2.2) fun r => .inr (hz z r)) hY) hz) (fk.last hown) jk ?_ fun z q => mem_last.mpr ⟨(zb tk z q).1, zwr z q⟩
    rw [← hall, List.append_nil]
    obtain ⟨k1, k2, vs, ⟨n, ho⟩, hv⟩ := ak
    exact ⟨mem_last.mpr ⟨k1, zwr dx (.head _)⟩, k2, vs, ⟨n, hs _ _ (zwr dx (.head _)) ho⟩, All2.imp (fun _ _ y => b.last_v y) hv⟩
end
theorem St.lk_to {c : Cx} {S : Sto} (a : St c S) {u : Option (Nat × M)} : To [] a (a.lk u) := by
  cases u with
  | none => exact To.refl a
  | some p => exact a.lock_to
theorem St.lk_s {c : Cx} {S : Sto} (a : St c S) {u : Option (Nat × M)} : (a.lk u).s = a.s := by cases u <;> rfl
def cfin (md : Bool) (acc : List D) (S : Sto) : Val × Sto := if md = true then (.ref S.length, S ++ [.list acc]) else (.d (.list acc), S)
def CP (f : Fr) (elt : Expr) (gens : List Comprehension) (sc : Scope) (e : En) (S : Sto) (z : Val × Sto) : Prop :=
  ∀ (env : Env) (A : Around) (a : St f.c S) (pos : Pos) (use : Option (Value → Sem Unit)) (Q : Value → Shared → Prop), Pre f env A a e →
    (∀ dx C (b : St f.c z.2), To [] a b → b.vv (.ref dx) z.1 → C ∈ b.wl → C ∉ gad b.G → a.s.heap.get? C = none → (∃ m, b.s.heap.Ns C m) → compPost (model pw f.c.w) A noE use Q (.ref dx) C (.ok .next) b.s) →
    wpAny (model pw f.c.w) A (comprehension (.ListComp elt gens sc pos) sc env (firstIterPos gens pos) (newList []) (firstAsync gens) (firstIter gens env) use) Q noE a.s
def scOk (sc : Scope) (gens : List Comprehension) : Bool := sc.kind == .function && decide ((sc.names.map (·.1)).Nodup) && gens.all fun g => tgtOk sc g.target
theorem scOk_inv {sc : Scope} {gens : List Comprehension} (h : scOk sc gens = true) : sc.kind = .function ∧ (sc.names.map (·.1)).Nodup ∧ ∀ g ∈ gens, ∀ x ∈ tnames g.target, sc.names.lookup x = some .local ∨ sc.names.lookup x = some .cell := by
  obtain ⟨h, h3⟩ := Bool.and_eq_true_iff.mp h
  obtain ⟨h1, h2⟩ := Bool.and_eq_true_iff.mp h
  refine ⟨eq_of_beq h1, of_decide_eq_true h2, fun g m x hx => ?_⟩
  exact (Bool.or_eq_true_iff.mp (List.all_eq_true.mp (List.all_eq_true.mp h3 g m) x hx)).imp eq_of_beq eq_of_beq
theorem names_lookup {names : List (Str × NameKind)} (nd : (names.map (·.1)).Nodup) {x : Str} {k : NameKind} (h : (x, k) ∈ names) : names.lookup x = some k := by
  obtain ⟨b, hb⟩ := lookup_some_of_mem h
  rw [hb, names_one nd (mem_of_lookup hb) h]
section
variable {f : Fr} {elt tgt iter : Expr} {ifs : List Expr} {gs : List Comprehension} {sc : Scope} {e : En} {S S1 : Sto} {u : Option (Nat × M)} {l acc : List D} {J : En → Prop} {B : En → List D → Prop} {md : Bool}
theorem comp_end {A : Around} {use : Option (Value → Sem Unit)} {Q : Value → Shared → Prop} {a : St f.c S} {b : St f.c S1} {b2 : St f.c (lkS u S1)} {dx C : Addr} (ta : To [] a b) (lk : LkOk u S1) (t : To [] (b.lk u) b2) (hdx : b.s.heap.get? dx = none) (hC0 : b.s.heap.get? C = none) (hCt : C ∉ tabs) (hdC : dx ≠ C) (ac : AccAt b2 dx acc) (hC : C ∈ b2.wl) (hCg : C ∉ gad b2.G) (hn : ∃ m, b2.s.heap.Ns C m)
    (h : ∀ dx C (b : St f.c (cfin md acc S1).2), To [] a b → b.vv (.ref dx) (cfin md acc S1).1 → C ∈ b.wl → C ∉ gad b.G → a.s.heap.get? C = none → (∃ m, b.s.heap.Ns C m) → compPost (model pw f.c.w) A noE use Q (.ref dx) C (.ok .next) b.s) : compPost (model pw f.c.w) A noE use Q (.ref dx) C (.ok .next) b2.s := by
  obtain ⟨d, e1, e2, e3, td⟩ := b.unlk lk t fun _ m => nomatch m
  obtain ⟨h1, h2, vs, il, hv⟩ := ac
  rw [← e2] at h1 hC
  rw [← e3] at h2 hCg
  have hv : d.vs vs acc := by show Vs d.wl d.s.heap vs acc; rw [e1, e2]; exact hv
  rw [← e1] at il hn ⊢
  have hCa := ta.back hCt hC0
  cases md with
  | false =>
    have t7 := td.last (h' := d.s.heap) (tk := d.s.toks) (Z := [dx]) (zw := all_c h1 all_n) (zg := all_c h2 all_n) (hs := fun _ _ _ e => e) (all_c hdx all_n)
    exact h dx C (d.last [dx] d.s.heap d.s.toks (all_c h1 all_n) (all_c h2 all_n) fun _ _ _ e => e) (ta.trans t7) (.lst (vs := vs) (fun m => (mem_last.mp m).2 (.head _)) (d.good.off h1) il.il (All2.imp (fun _ _ y => d.last_v y) hv)) (mem_last.mpr ⟨hC, fun q => hdC (List.mem_singleton.mp q).symm⟩) hCg hCa hn
  | true =>
    have t7 := td.own (h1 := h1) (h2 := h2) (h3 := ⟨vs, il, hv⟩) hdx
    refine h dx C _ (ta.trans t7) ⟨⟨dx, none⟩, ?_, rfl⟩ hC (fun m => ?_) hCa hn
    · show (d.G ++ [_])[S1.length]? = _
      rw [← d.good.sat.length]; simp
    · have m : C ∈ gad (d.G ++ [⟨dx, none⟩]) := m
      rw [gad_snoc] at m
      exact (List.mem_append.mp m).elim hCg fun q => hdC (List.mem_singleton.mp q).symm
theorem comp_ok {emit : Pos → Addr → Env → Sem PySem.Fin → Sem PySem.Fin} (ok : scOk sc (⟨tgt, iter, ifs, 0⟩ :: gs) = true) (okf : compFree sc f.ks = true) (h1 : SRC f tgt iter e S (l, S1, u)) (hJ : J (freeE sc e))
    (hden : ∀ ia dx cenv pos, (model pw f.c.w).den (.compLoop (.ListComp elt (⟨tgt, iter, ifs, 0⟩ :: gs) sc pos) 0 (.ref ia) (.ref dx) cenv) = (turnOf iter.pos tgt (.ref ia) ifs cenv (emit pos dx cenv) (.compLoop (.ListComp elt (⟨tgt, iter, ifs, 0⟩ :: gs) sc pos) 0 (.ref ia) (.ref dx) cenv)).onRaise (fun x => do noteFrame x cenv; theTreesLotGoes x))
    (hbody : ∀ pos A cenv dx Z, Room (12 + f.k) A → dx ∉ own (ksOf sc) cenv → dx ∉ Z → (∀ x, (sc.names.lookup x = some .local ∨ sc.names.lookup x = some .cell) → place cenv x ∈ Z) → BodyOk ⟨f.c, f.k, ksOf sc⟩ cenv A J (lkS u S1) B dx Z (emit pos dx cenv))
    (h2 : CL ⟨f.c, f.k, ksOf sc⟩ B tgt ifs J (lkS u S1) l acc) (hl : acc.length ≤ sizeLine) : CP f elt (⟨tgt, iter, ifs, 0⟩ :: gs) sc e S (cfin md acc S1) := by
  intro env A a pos use Q P h
  obtain ⟨k1, k2, k3⟩ := scOk_inv ok
  have cl := (comp_frame (Q := fun _ _ => True) (A := A) P.fm k1 k2 okf fun _ _ _ _ => trivial).1
  refine wpAny_comprehension_free (g := ⟨tgt, iter, ifs, 0⟩) (gs := gs) rfl (h1.1 env) cl k1 (fun x hx hl => names_lookup k2 (by rw [← hl]; exact hx)) ?_
  refine h1.2 env A a _ P fun b d it ta hlk tb hi hz => ?_
  have fd : Fm f.ks env d e := ((P.fm.to ta).to b.lk_to).to tb
  refine wpAny_newObj_type ?_ (by size_fits)
  have fr := d.good.fresh (Nat.le_refl _)
  have hd1 : ∀ z ∈ [d.s.heap.objs.size], d.s.heap.objs.size ≤ z ∧ ∃ o, (d.s.heap.push { cls := .type "list", data := .seq ([] : List Value).toArray }).get? z = some o := one_new d rfl
  have tc : To [] d (d.pushO { cls := .type "list", data := .seq ([] : List Value).toArray } d.s.toks rfl) := d.pushO_to
  have ac0 : AccAt (d.pushO { cls := .type "list", data := .seq ([] : List Value).toArray } d.s.toks rfl) d.s.heap.objs.size [] := ⟨.head _, fun m => fr.2.2.2 (d.good.own _ m), [], ⟨_, Heap.get?_push_size _ rfl⟩, .nil⟩
  generalize hD : d.pushO { cls := .type "list", data := .seq ([] : List Value).toArray } d.s.toks rfl = d1 at tc ac0
  have hs1 : d1.s = { d.s with heap := d.s.heap.push { cls := .type "list", data := .seq ([] : List Value).toArray } } := by rw [← hD]; rfl
  rw [← show d1.s = _ from hs1]
  refine (comp_frame (fd.to tc) k1 k2 okf fun cenv Z b2 F => ?_).2
  have dxb : b.s.heap.get? d.s.heap.objs.size = none := (b.lk_to.trans tb).back fr.2.2.1 fr.1
  have z1 : ∀ z ∈ Z, z ∉ tabs ∧ d.s.heap.get? z = none := fun z m => have q := b2.good.off (by rw [F.wl]; exact List.mem_append_left _ m); ⟨q, tc.back q (F.new z m)⟩
  have zb : ∀ z ∈ Z, b.s.heap.get? z = none := fun z m => (b.lk_to.trans tb).back (z1 z m).1 (z1 z m).2
  have dxZ : d.s.heap.objs.size ∉ Z := fun m => d1.good.no ac0.1 (F.new _ m)
  have dxo : d.s.heap.objs.size ∉ own (ksOf sc) { cenv with scope := relabel sc env } := fun m => (F.own _ m).elim dxZ fun q => d.good.no (fd.mem _ q) fr.1
  have ac2 := ac0.to F.t fun q => nomatch q
  have loop : codeAny (model pw f.c.w) A (.compLoop (.ListComp elt (⟨tgt, iter, ifs, 0⟩ :: gs) sc pos) 0 (.ref it.I) (.ref d.s.heap.objs.size) { cenv with scope := relabel sc env }) (compPost (model pw f.c.w) A noE use Q (.ref d.s.heap.objs.size) cenv.locals) b2.s := by
    refine cloop_ok (g := ⟨f.c, f.k, ksOf sc⟩) (Y := []) (Z := Z) (dx := d.s.heap.objs.size) (emit := emit pos d.s.heap.objs.size { cenv with scope := relabel sc env }) P.room (p := iter.pos) rfl rfl (hden _ _ _ _) (fun x hx => F.pl x (k3 _ (.head _) x hx)) (hbody pos A _ _ _ P.room dxo dxZ F.pl) ((tb.trans tc).trans F.t) ((hi.to tc).to F.t) (fun y m => ?_) F.fm hJ ac2 (all_c ⟨ac2.1, ac2.2.1, fun q => ?_, .inr ?_⟩ fun z m => ⟨by rw [F.wl]; exact List.mem_append_left _ m, fun q => ?_, fun q => ?_, .inr ?_⟩) (fun _ m => nomatch m) (fun z m q => ?_) dxZ h2 (by rw [List.length_nil, Nat.zero_add]; exact hl) fun b3 e3 t3 f3 _ a3 hz3 => ?_
    · rw [b.lk_s]; exact hz y m
    · obtain ⟨o, eo⟩ := (hi.fpo _ q).1
      exact no_some eo fr.1
    · rw [b.lk_s]; exact dxb
    · rw [F.G] at q; exact d1.good.no (d1.good.own z q) (F.new z m)
    · obtain ⟨o, eo⟩ := (hi.fpo _ q).1
      exact no_some eo (z1 z m).2
    · rw [b.lk_s]; exact zb z m
    · rcases F.own z m with w | w
      · obtain ⟨o, eo⟩ := hi.live 0 _ hi.st z q
        exact no_some eo (z1 z w).2
      · exact b.good.no ((P.fm.to ta).mem z w) (hz z q)
    · exact comp_end ta hlk t3 dxb (zb _ F.loc) (z1 _ F.loc).1 (fun q => dxZ (q ▸ F.loc)) (by rw [List.nil_append] at a3; exact a3) (hz3 _ (.tail _ F.loc)) (f3.apart _ (.head _)) (let ⟨m, hn, _⟩ := f3.ns; ⟨m, hn⟩) h
  exact codeAny_compStart_list loop (wpAny_mono (((hi.to tc).to F.t).self b2.s (fun it' s' => codeAny (model pw f.c.w) A (.compLoop (.ListComp elt (⟨tgt, iter, ifs, 0⟩ :: gs) sc pos) 0 it' (.ref d.s.heap.objs.size) { cenv with scope := relabel sc env }) (compPost (model pw f.c.w) A noE use Q (.ref d.s.heap.objs.size) cenv.locals) s') ((hi.to tc).to F.t).st loop) (fun _ _ x => x) fun _ _ x => x.elim)
end
def emit2 (e : Expr) (iter : Expr) (acc : Value) (cenv : Env) (k : Sem PySem.Fin) : Sem PySem.Fin := do
  let x ← eval iter cenv
  standAt iter.pos
  let x ← foldedSetIterable iter cenv x
  let _ ← runOwn (.compStart e 1 (← holding [x] (pyIter x)) acc cenv) cenv
  k
theorem start2 {c : Cx} {A : Around} {elt : Expr} {t1 i1 : Expr} {f1 : List Expr} {tgt iter : Expr} {ifs : List Expr} {scope : Scope} {pos : Pos} {it acc : Value} {env : Env} {s : Shared} {R : Result → Shared → Prop}
    (h0 : codeAny (model pw c.w) A (.compLoop (.ListComp elt [⟨t1, i1, f1, 0⟩, ⟨tgt, iter, ifs, 0⟩] scope pos) 1 it acc env) R s)
    (h : wpAny (model pw c.w) A (pyIter it) (fun it' s' => codeAny (model pw c.w) A (.compLoop (.ListComp elt [⟨t1, i1, f1, 0⟩, ⟨tgt, iter, ifs, 0⟩] scope pos) 1 it' acc env) R s') noE s) :
    codeAny (model pw c.w) A (.compStart (.ListComp elt [⟨t1, i1, f1, 0⟩, ⟨tgt, iter, ifs, 0⟩] scope pos) 1 it acc env) R s := by
  refine codeAny_of_tree ?_
  show wpAny _ _ ((compStart (.ListComp elt [⟨t1, i1, f1, 0⟩, ⟨tgt, iter, ifs, 0⟩] scope pos) 1 it acc env).onRaise (fun x => do noteFrame x env; standAt theWindowsPlace)) _ _ s
  refine wpAny_notedAt ?_
  unfold compStart
  show wpAny _ _ (ask >>= _) _ _ s
  refine wpAny_bind (wpAny_askSetting (wpAny_ite ?_))
  split
  · first
      | exact wpAny_bind (wpAny_pure (wpAny_pure (And.intro rfl h0)))
      | exact wpAny_pure (And.intro rfl h0)
  · refine wpAny_bind (wpAny_rule ?_)
    show wpAny _ _ (standAt iter.pos >>= _) _ _ s
    exact wpAny_bind (wpAny_standAt (wpAny_bind (wpAny_mono h (fun it' s' h' => wpAny_pure (And.intro rfl h')) fun _ _ x => x.elim)))
def emit1 (elt : Expr) (dx : Addr) (cenv : Env) (k : Sem PySem.Fin) : Sem PySem.Fin := do
  let __r ← (do let _ ← call (.builtin "list.append") [.ref dx, ← eval elt cenv] : Sem Unit)
  k
def B1 (g : Fr) (elt : Expr) (S : Sto) (e : En) (ys : List D) : Prop := ∃ y, ys = [y] ∧ EV g elt e S (.d y, S)
section
variable {g : Fr} {elt : Expr} {S : Sto} {J : En → Prop} {A : Around} {cenv : Env} {dx : Addr} {Z : List Addr}
theorem body1 (room : Room (12 + g.k) A) (hno : dx ∉ own g.ks cenv) : BodyOk g cenv A J S (B1 g elt S) dx Z (emit1 elt dx cenv) := by
  intro e acc ys b k Q E hB hJ hl fm ha hz h
  obtain ⟨y, rfl, hy⟩ := hB
  refine wpAny_bind (wpAny_mono (Q := fun _ s' => wpAny (model pw g.c.w) A k Q E s') (wpAny_bind (hy cenv A b (fun v s1 => wpAny (model pw g.c.w) A (call (.builtin "list.append") [.ref dx, v] >>= fun _ => pure ()) _ noE s1) ⟨room, fm⟩ fun u b1 t1 v1 => ?_)) (fun _ _ x => x) fun _ _ x => x.elim)
  obtain ⟨h1, h2, vs, il, hv⟩ := ha.to t1 fun q => nomatch q
  refine wpAny_bind (wpAny_list_append_plain il.plain (fun h' il' hs => wpAny_pure ?_) (by have := hv.length; rw [List.length_singleton] at hl; simp; omega))
  have lv : ∃ o, h'.get? dx = some o := let ⟨n, e⟩ := il'; ⟨_, e⟩
  have t2 := b1.one_to (O := dx :: Z) (h' := h') (tk := b1.s.toks) (m := h1) (n := h2) (hs := hs) (lv := lv) (.head _) fun z m => t1.sub z (hz z m).1
  have t3 := b1.one_to (O := [dx]) (h' := h') (tk := b1.s.toks) (m := h1) (n := h2) (hs := hs) (lv := lv) (.head _) (all_c h1 all_n)
  refine h (b1.one dx h' b1.s.toks h1 h2 hs lv) e ((t1.wide fun z m => (hz z m).1).trans t2) ((fm.to t1).toX t3 fun z m q => hno (List.mem_singleton.mp q ▸ m)) hJ ⟨h1, h2, vs ++ [u], ?_, (t3.vs hv).append (.cons (t3.v v1) .nil)⟩
  have : vs.toArray.push u = (vs ++ [u]).toArray := by simp
  rw [← this]; exact isL_of il'
end
abbrev CM (g : Fr) (elt tgt : Expr) (ifs : List Expr) (J : En → Prop) (S : Sto) : List D → List D → Prop := CL g (B1 g elt S) tgt ifs J S
theorem CM.map {g : Fr} {elt tgt : Expr} {J : En → Prop} {S : Sto} {h : D → D} {l : List D} (H : ∀ x ∈ l, ∀ e, J e → ∃ e1, Asg g.ks tgt x e e1 ∧ J e1 ∧ EV g elt e1 S (.d (h x), S)) : CM g elt tgt [] J S l (l.map h) := by
  induction l with
  | nil => exact .nil
  | cons x l ih => exact .yes (ys := [h x]) (fun e j => let ⟨e1, a, b, d⟩ := H x (.head _) e j; ⟨e1, a, b, .nil, _, rfl, d⟩) (ih fun y m => H y (.tail _ m))
theorem CM.filter {g : Fr} {elt tgt : Expr} {ifs : List Expr} {J : En → Prop} {S : Sto} {h : D → D} {w : D → Bool} {l : List D} (H : ∀ x ∈ l, ∀ e, J e → ∃ e1, Asg g.ks tgt x e e1 ∧ J e1 ∧ AT g .And ifs e1 S (w x, S) ∧ (w x = true → EV g elt e1 S (.d (h x), S))) : CM g elt tgt ifs J S l ((l.filter w).map h) := by
  induction l with
  | nil => exact .nil
  | cons x l ih =>
    have ih := ih fun y m => H y (.tail _ m)
    by_cases hx : w x = true
    · rw [List.filter_cons_of_pos hx]
      exact .yes (ys := [h x]) (fun e j => let ⟨e1, a, b, d, q⟩ := H x (.head _) e j; ⟨e1, a, b, hx ▸ d, _, rfl, q hx⟩) ih
    · rw [List.filter_cons_of_neg hx]
      exact .no (fun e j => let ⟨e1, a, b, d, q⟩ := H x (.head _) e j; ⟨e1, a, b, Bool.eq_false_iff.mpr hx ▸ d⟩) ih
section
variable {f : Fr} {elt tgt iter : Expr} {ifs : List Expr} {gs : List Comprehension} {sc : Scope} {e : En} {S S1 S2 : Sto} {u : Option (Nat × M)} {l acc : List D} {J : En → Prop} {md : Bool} {z : Val × Sto} {zf : Fl × Sto} {p q t : Pos} {n : Str} {ss : List Stmt}
theorem c_one (ok : scOk sc [⟨tgt, iter, ifs, 0⟩] = true) (okf : compFree sc f.ks = true) (h1 : SRC f tgt iter e S (l, S1, u)) (hJ : J (freeE sc e)) (h2 : CM ⟨f.c, f.k, ksOf sc⟩ elt tgt ifs J (lkS u S1) l acc) (hl : acc.length ≤ sizeLine) : CP f elt [⟨tgt, iter, ifs, 0⟩] sc e S (cfin md acc S1) :=
  comp_ok (emit := fun _ dx cenv => emit1 elt dx cenv) ok okf h1 hJ (fun _ _ _ _ => rfl) (fun _ A cenv dx Z room hno _ _ => body1 (g := ⟨f.c, f.k, ksOf sc⟩) room hno) h2 hl
theorem e_comp {gens : List Comprehension} (h : CP f elt gens sc e S z) : EV f (.ListComp elt gens sc p) e S z := by
  intro env A a Q P hh
  rw [arm_eval_ListComp]
  refine h env A a p none Q P fun dx C b t hv hC hCg hC0 hn => ?_
  obtain ⟨m, hn⟩ := hn
  refine ⟨m, hn, fun h' hs => ?_⟩
  have hk : ∀ x o, x ∉ [C] → b.s.heap.get? x = some o → h'.get? x = some o := fun x o q e => (hs.2 x fun w => q (by rw [w]; exact .head _)).trans e
  refine hh _ (b.last [C] h' b.s.toks (all_c hC all_n) (all_c hCg all_n) hk) (t.last (all_c hC0 all_n)) ?_
  cases hz : z.1 with
  | d x => rw [hz] at hv; exact b.last_v hv
  | ref i => rw [hz] at hv; exact hv
theorem x_asgC {gens : List Comprehension} {v : Val} (k : isVa f.ks n = true) (h : CP f elt gens sc e S (v, S1)) (nx : EX f ss (put n v e) S1 zf) : EX f (.Assign [.Name n q] (.ListComp elt gens sc t) p :: ss) e S zf := x_cons (fun env A a Q P hh => by
  rw [PySem.exec_Assign_arm]
  refine wpAny_bind (wpAny_standAt ?_)
  obtain ⟨w, hw⟩ : ∃ w, swapsWithSole [.Name n q] (.ListComp elt gens sc t) p.line env = pure w := ⟨_, rfl⟩
  rw [hw]
  refine wpAny_bind (wpAny_pure ?_)
  cases w with
  | false =>
    rw [if_neg Bool.false_ne_true]
    refine wpAny_bind (e_comp h env A a _ P fun u b t1 hv => ?_)
    show wpAny _ A (do assignAll u [assign (.Name n q) env]; pure .next) Q noE b.s
    exact wpAny_bind (wpAny_assign_Name ((P.fm.to t1).store k (place_own (P.fm.to t1) k) (P.fm.to t1).mem hv fun d t2 f2 => wpAny_pure (hh .next d ((own_nx P t1).trans t2) ⟨rfl, f2⟩)))
  | true =>
    rw [if_pos rfl]
    refine wpAny_bind ?_
    rw [arm_evalThenUse_ListComp]
    refine wpAny_bind (h env A a t (some fun v => assignAll v [assign (.Name n q) env]) _ P fun dx C b t1 hv hC hCg hC0 hn => ?_)
    show wpAny _ A (assign (.Name n q) env (.ref dx)) _ _ b.s
    refine wpAny_assign_Name ((P.fm.to t1).store k (place_own (P.fm.to t1) k) (P.fm.to t1).mem hv fun d t2 f2 => ?_)
    have hCo : C ∉ own f.ks env := fun m => a.good.no (P.fm.mem C m) hC0
    obtain ⟨m, hn⟩ := hn
    refine ⟨m, ns_at (fun o => t2.eff C o (fun q => (List.mem_append.mp q).elim hCo fun q => hCg (W_sub q)) (b.good.off hC)) hn, fun h' hs => wpAny_pure (wpAny_pure ?_)⟩
    have hk : ∀ x o, x ∉ [C] → d.s.heap.get? x = some o → h'.get? x = some o := fun x o q e => (hs.2 x fun w => q (by rw [w]; exact .head _)).trans e
    exact hh .next (d.last [C] h' d.s.toks (all_c (t2.sub C hC) all_n) (all_c (t2.gnew hCg hC) all_n) hk) (((own_nx P t1).trans t2).last (all_c hC0 all_n)) ⟨rfl, f2.last fun z m q => hCo (List.mem_singleton.mp q ▸ m)⟩) nx
end
def FN (c : Cx) (k : Nat) (g : Str) (vs : List Val) (S : Sto) (z : Val × Sto) : Prop := ∃ fv, Glob c g fv ∧ CW c fv ∧ OpOk c (12 + k) (fun us => call fv us) vs S z
inductive KV : Nat → Val → Sto → Prop
  | lst {i : Nat} {S : Sto} {l : List D} : S[i]? = some (.list l) → KV 1 (.ref i) S
  | acc {i : Nat} {S : Sto} {l : List D} {n : Int} : S[i]? = some (.acc l n) → KV 2 (.ref i) S
  | str {x : Str} {S : Sto} : KV 3 (.d (.str x)) S
def MLook (c : Cx) (m : Str) (k : Nat) (fv : Value) : Prop :=
  ∀ (S : Sto) (A : Around) (a : St c S) (u : Value) (o : Val) (oe : Expr) (apos pos : Pos) (env : Env) (es : List Expr) (Q : Value → Shared → Prop), a.vv u o → KV k o S → es.any isStar = false → es.length < 30 → (apos.endLine == pos.line) = true →
    (∀ p, wpAny (model pw c.w) A (callWith p fv [u] (backTo pos (starEach es env)) []) Q noE a.s) → wpAny (model pw c.w) A (methodCall oe m apos pos env u (es.length + ([] : List Keyword).length) (backTo pos (starEach es env)) (backToKw pos (keywordEach [] env))) Q noE a.s
def ME (c : Cx) (k : Nat) (m : Str) (o : Val) (vs : List Val) (S : Sto) (z : Val × Sto) : Prop := ∃ fv n, KV n o S ∧ MLook c m n fv ∧ CW c fv ∧ OpOk c (12 + k) (fun us => call fv us) (o :: vs) S z
theorem base_of {o : Expr} {m : Str} {env : Env} {whole : Sem Value} (h : bareCall o = false) : attributeBase o m env whole = whole := by
  unfold attributeBase
  split
  · cases h
  · rfl
section
variable {f : Fr} {e : En} {S S1 S2 : Sto} {p q t : Pos} {a : Val} {z : Val × Sto} {args : List Expr} {vs : List Val}
theorem e_fn {g : Str} (k : isG f.ks g = true) (h1 : VS f args e S (vs, S1)) (h2 : FN f.c f.k g vs S1 z) : EV f (.Call (.Name g q) args [] p) e S z := fun env A a Q P h =>
  let ⟨_, gf, cw, op⟩ := h2
  call_ok P k gf cw h1 fun us b t1 vv => op A b us Q P.room vv fun u d t2 => h u d (t1.trans t2)
theorem e_me {o : Expr} {m : Str} (hb : bareCall o = false) (hl : args.length < 30) (hp : (t.endLine == p.line) = true) (h0 : EV f o e S (a, S1)) (h1 : VS f args e S1 (vs, S2)) (hk : ∀ n, KV n a S2 → KV n a S1) (h2 : ME f.c f.k m a vs S2 z) : EV f (.Call (.Attribute o m t) args [] p) e S z := by
  intro env A a0 Q P h
  obtain ⟨fv, n, kv, ml, cw, op⟩ := h2
  rw [arm_eval_Call, base_of hb]
  refine wpAny_bind (h0 env A a0 _ P fun u b t1 v1 => wpAny_bind (wpAny_standAt ?_))
  exact ml _ A b u a _ t p env args Q v1 (hk n kv) h1.star hl hp fun pp => cw A pp p [u] args env b.s Q h1.star (h1.ok _ env A b _ (P.to t1) fun us d t2 vv => ⟨d.good.kin, op A d (u :: us) Q P.room (.cons (t2.vv v1) vv) fun y g t3 => h y g ((t1.trans t2).trans t3)⟩)
end
inductive LV (S : Sto) : Fl × Sto → Val × Sto → Prop
  | none {e : En} {S' : Sto} : LV S (.next e, S') (.d .none, S'.take S.length)
  | data {x : D} {S' : Sto} : LV S (.ret (.d x), S') (.d x, S'.take S.length)
  | old {i : Nat} {S' : Sto} : i < S.length → LV S (.ret (.ref i), S') (.ref i, S'.take S.length)
  | lst {i : Nat} {S' : Sto} {l : List D} : S.length ≤ i → S'[i]? = some (.list l) → LV S (.ret (.ref i), S') (.d (.list l), S'.take S.length)
section
variable {c : Cx} {S S' : Sto} {X : List Addr} {a : St c S} {b : St c S'}
theorem To.cut (t : To X a b) : ∃ d : St c (S'.take S.length), d.s = b.s ∧ d.wl = b.wl ∧ d.G = a.G ∧ To X a d := by
  obtain ⟨G1, hG⟩ := t.pre
  have hl : a.G.length = S.length := a.good.sat.length
  have hsat : All2 (Sat c b.wl b.s.heap) a.G (S'.take S.length) := by
    have := b.good.sat.take S.length
    rw [← hG, ← hl, List.take_left' rfl] at this
    rw [← hl]; exact this
  have hW : ∀ z ∈ W a.G (S'.take S.length), z ∈ W b.G S' := fun z m => by
    obtain ⟨i, o, m', h1, h2, h3, h4⟩ := W_iff.mp m
    exact W_iff.mpr ⟨i, o, m', pre_get t.pre h1, by
      have := (List.getElem?_eq_some_iff.mp h1).1
      rw [List.getElem?_take_of_lt (hl ▸ this)] at h2; exact h2, h3, h4⟩
  have hg : ∀ z ∈ gad a.G, z ∈ gad b.G := fun z m => by
    rw [← hG]; unfold gad at m ⊢; rw [List.flatMap_append]; exact List.mem_append_left _ m
  have nd : (gad a.G).Nodup := a.good.nd
  exact ⟨⟨b.wl, a.G, b.s, ⟨b.good.old, b.good.kin, b.good.new, b.good.live, hsat, fun z m => b.good.own z (hg z m), nd, b.good.bare, b.good.os⟩⟩, rfl, rfl, rfl, t.xs, List.prefix_refl _, New.refl _ _, fun z m => t.wn z (hW z m), t.eff, t.new, t.sub⟩
end
def okKind : NameKind → Bool
  | .local => true
  | .cell => true
  | .globalImplicit => true
  | _ => false
def okPar (scope : Scope) (x : Str) : Bool := scope.names.lookup x == some .local || scope.names.lookup x == some .cell
def scopeOk (scope : Scope) (ps : List Str) : Bool :=
  scope.kind == .function && !scope.isCoroutine && !scope.isGenerator && decide ((scope.names.map (·.1)).Nodup) && scope.names.all (fun p => okKind p.2) && ps.all (okPar scope) && decide ps.Nodup
structure FnAt (c : Cx) (st : Stmt) (ps : List Str) (a : Addr) (fd : FuncData) (dus : List Value) : Prop where
  obj : ∃ o, (zK c.w.params).lookup a = some o ∧ o.data = .func fd
  body : fd.body = .stmts (fBody st)
  scope : fd.scope = fScope st
  clo : fd.closure = []
  gl : fd.globals = 3
  bu : fd.builtins = 0
  code : ∃ c' o vs t, fd.code = .ref c' ∧ (zK c.w.params).lookup c' = some o ∧ o.data = .fields vs ∧ vs[1]? = some (.str fd.qualname t)
  bind : ∀ us : List Value, us.length + dus.length = ps.length → ∀ (A : Around) (s : Shared) (Q : List (Str × Value) → Shared → Prop), (zK c.w.params).In s.heap → Q (ps.zip (us ++ dus)) s → wpAny (model pw c.w) A (bindArgs fd ⟨us, []⟩) Q noE s
  sc : scopeOk (fScope st) ps = true
theorem bind_plain {c : Cx} {ps : List Str} {fd : FuncData} (h : ∀ us : List Value, us.length = ps.length → bindArgs fd ⟨us, []⟩ = pure (ps.zip us)) : ∀ us : List Value, us.length + ([] : List Value).length = ps.length → ∀ (A : Around) (s : Shared) (Q : List (Str × Value) → Shared → Prop), (zK c.w.params).In s.heap → Q (ps.zip (us ++ [])) s → wpAny (model pw c.w) A (bindArgs fd ⟨us, []⟩) Q noE s := by
  intro us hl A s Q _ h'
  rw [h us (by simpa using hl)]
  rw [List.append_nil] at h'
  exact wpAny_pure h'
theorem bindL_out {kindOf : Str → Option NameKind} {x : Str} : ∀ {b : List (Str × Value)} {m : Str → Option Value}, (∀ p ∈ b, p.1 ≠ x) → bindL kindOf b m x = m x
  | [], _, _ => rfl
  | (n, v) :: r, m, h => by
    unfold bindL
    rw [bindL_out fun p q => h p (.tail _ q)]
    have : x ≠ n := fun q => h (n, v) (.head _) q.symm
    split
    · simp [this]
    · rfl
theorem bindC_out {kindOf : Str → Option NameKind} {x : Str} : ∀ {b : List (Str × Value)} {m : Str → Option Value}, (∀ p ∈ b, p.1 ≠ x) → bindC kindOf b m x = m x
  | [], _, _ => rfl
  | (n, v) :: r, m, h => by
    unfold bindC
    rw [bindC_out fun p q => h p (.tail _ q)]
    have : x ≠ n := fun q => h (n, v) (.head _) q.symm
    split
    · rfl
    · simp [this]
theorem zip_out {x : Str} : ∀ {ps : List Str} {us : List Value}, x ∉ ps → ∀ p ∈ ps.zip us, p.1 ≠ x
  | [], _, _, _, h => by simp at h
  | _ :: _, [], _, _, h => by simp at h
  | q :: ps, u :: us, hx, p, h => by
    simp only [List.zip_cons_cons, List.mem_cons] at h hx
    rcases h with rfl | h
    · exact fun e => hx (.inl e.symm)
    · exact zip_out (fun m => hx (.inr m)) p h
theorem bindL_get {kindOf : Str → Option NameKind} {x : Str} {u : Value} : ∀ {ps : List Str} {us : List Value} {m : Str → Option Value}, ps.Nodup → kindOf x = some .local → (ps.zip us).lookup x = some u → bindL kindOf (ps.zip us) m x = some u
  | [], _, _, _, _, h => by simp at h
  | _ :: _, [], _, _, _, h => by simp at h
  | q :: ps, v :: us, m, nd, hk, h => by
    simp only [List.nodup_cons] at nd
    simp only [List.zip_cons_cons, List.lookup_cons] at h
    show bindL kindOf ((q, v) :: ps.zip us) m x = some u
    unfold bindL
    cases hb : x == q with
    | true =>
      rw [hb] at h; cases h
      have e := beq_iff_eq.mp hb
      subst e
      rw [bindL_out (zip_out nd.1), if_pos hk]; simp
    | false =>
      rw [hb] at h
      exact bindL_get nd.2 hk h
theorem bindC_get {kindOf : Str → Option NameKind} {x : Str} {u : Value} : ∀ {ps : List Str} {us : List Value} {m : Str → Option Value}, ps.Nodup → kindOf x = some .cell → (ps.zip us).lookup x = some u → bindC kindOf (ps.zip us) m x = some u
  | [], _, _, _, _, h => by simp at h
  | _ :: _, [], _, _, _, h => by simp at h
  | q :: ps, v :: us, m, nd, hk, h => by
    simp only [List.nodup_cons] at nd
    simp only [List.zip_cons_cons, List.lookup_cons] at h
    show bindC kindOf ((q, v) :: ps.zip us) m x = some u
    unfold bindC
    cases hb : x == q with
    | true =>
      rw [hb] at h; cases h
      have e := beq_iff_eq.mp hb
      subst e
      rw [bindC_out (zip_out nd.1), if_neg (by rw [hk]; decide)]; simp
    | false =>
      rw [hb] at h
      exact bindC_get nd.2 hk h
theorem scopeOk_get {scope : Scope} {ps : List Str} (h : scopeOk scope ps = true) : scope.kind = .function ∧ scope.isCoroutine = false ∧ scope.isGenerator = false ∧ (scope.names.map (·.1)).Nodup ∧ (∀ p ∈ scope.names, okKind p.2 = true) ∧ (∀ x ∈ ps, scope.names.lookup x = some .local ∨ scope.names.lookup x = some .cell) ∧ ps.Nodup := by
  simp only [scopeOk, Bool.and_eq_true, beq_iff_eq, Bool.not_eq_true', decide_eq_true_eq, List.all_eq_true] at h
  obtain ⟨⟨⟨⟨⟨⟨h1, h2⟩, h3⟩, h4⟩, h5⟩, h6⟩, h7⟩ := h
  exact ⟨h1, h2, h3, h4, h5, fun x m => by simpa [okPar] using h6 x m, h7⟩
def envL (l : List (Str × Val)) : En := l.foldr (fun p e => put p.1 p.2 e) emp
theorem envL_lookup {l : List (Str × Val)} {x : Str} : envL l x = l.lookup x := by
  induction l with
  | nil => rfl
  | cons p l ih =>
    obtain ⟨n, k⟩ := p
    show put n k (envL l) x = _
    rw [List.lookup_cons]
    cases hb : x == n with
    | true => rw [beq_iff_eq.mp hb]; exact put_same
    | false => exact put_ne hb ih
theorem zip_vvs {R : Value → Val → Prop} {x : Str} {v : Val} {us : List Value} {vs : List Val} (h : All2 R us vs) : ∀ {ps : List Str}, (ps.zip vs).lookup x = some v → ∃ u, (ps.zip us).lookup x = some u ∧ R u v := by
  induction h with
  | nil => intro ps e; cases ps <;> cases e
  | cons a _ ih =>
    intro ps e
    cases ps with
    | nil => cases e
    | cons q ps =>
      rw [List.zip_cons_cons, List.lookup_cons] at e ⊢
      cases hb : x == q with
      | true => rw [hb] at e; cases e; exact ⟨_, rfl, a⟩
      | false => rw [hb] at e; exact ih e
def EXc (f : Fr) (code : Value) (b : List Stmt) (e : En) (S : Sto) (z : Fl × Sto) : Prop := ∀ (env : Env) (A : Around) (a : St f.c S) (Q : Flow → Shared → Prop), env.code = code → Pre f env A a e → (∀ w (b : St f.c z.2), To (own f.ks env) a b → FlowIs f env b w z.1 → Q w b.s) → wpAny (model pw f.c.w) A (execs b env) Q noE a.s
theorem EX.c {f : Fr} {code : Value} {b : List Stmt} {e : En} {S : Sto} {z : Fl × Sto} (h : EX f b e S z) : EXc f code b e S z := fun env A a Q _ => h env A a Q
def fval (w : Flow) : Value := match w with
  | .ret v => v
  | _ => .none
section
variable {c : Cx} {S : Sto} {X : List Addr}
theorem FlowIs.val {f : Fr} {env : Env} {S' : Sto} {b : St f.c S'} {w : Flow} {fl : Fl} {z : Val × Sto} (h : FlowIs f env b w fl) (l : LV S (fl, S') z) : ∃ u v, fval w = u ∧ b.vv u v ∧ z.2 = S'.take S.length ∧ (z.1 = v ∧ (∀ i, v = .ref i → i < S.length) ∨ ∃ i l, v = .ref i ∧ S.length ≤ i ∧ S'[i]? = some (.list l) ∧ z.1 = .d (.list l)) := by
  cases l with
  | none => obtain ⟨rfl, _⟩ := h; exact ⟨_, .d .none, rfl, .none, rfl, .inl ⟨rfl, fun _ q => nomatch q⟩⟩
  | data => obtain ⟨u, rfl, hu⟩ := h; exact ⟨u, _, rfl, hu, rfl, .inl ⟨rfl, fun _ q => nomatch q⟩⟩
  | old hi => obtain ⟨u, rfl, hu⟩ := h; exact ⟨u, _, rfl, hu, rfl, .inl ⟨rfl, fun _ q => by cases q; exact hi⟩⟩
  | lst h0 hi => obtain ⟨u, rfl, hu⟩ := h; exact ⟨u, _, rfl, hu, rfl, .inr ⟨_, _, rfl, h0, hi, rfl⟩⟩
theorem leave_ok {S' : Sto} {a : St c S} {b : St c S'} {Z : List Addr} {u : Value} {v : Val} {z1 : Val} (t : To [] a b) (hZ : ∀ y ∈ Z, a.s.heap.get? y = none ∧ y ∈ b.wl ∧ y ∉ gad b.G) (hu : b.vv u v) (hv : z1 = v ∧ (∀ i, v = .ref i → i < S.length) ∨ ∃ i l, v = .ref i ∧ S.length ≤ i ∧ S'[i]? = some (.list l) ∧ z1 = .d (.list l)) {Q : Value → Shared → Prop}
    (h : ∀ u (d : St c (S'.take S.length)), To [] a d → d.vv u z1 → Q u d.s) : Q u b.s := by
  obtain ⟨d, e1, e2, e3, td⟩ := t.cut
  obtain ⟨G1, hG⟩ := t.pre
  have hl : a.G.length = S.length := a.good.sat.length
  have ng : ∀ y ∈ gad G1, y ∈ gad b.G ∧ y ∉ gad a.G := fun y m => by
    have nd := b.good.nd
    rw [← hG] at nd ⊢
    unfold gad at nd m ⊢
    rw [List.flatMap_append] at nd ⊢
    exact ⟨List.mem_append_right _ m, fun q => (List.nodup_append.mp nd).2.2 y q y m rfl⟩
  have gab : ∀ y ∈ gad a.G, y ∈ gad b.G := fun y m => by
    rw [← hG]; unfold gad at m ⊢; rw [List.flatMap_append]; exact List.mem_append_left _ m
  have zf : ∀ y ∈ Z ++ gad G1, a.s.heap.get? y = none := fun y m => (List.mem_append.mp m).elim (fun q => (hZ y q).1) fun q => (t.gn y (ng y q).1).resolve_left (ng y q).2
  have zw : ∀ y ∈ Z ++ gad G1, y ∈ d.wl := fun y m => by rw [e2]; exact (List.mem_append.mp m).elim (fun q => (hZ y q).2.1) fun q => b.good.own y (ng y q).1
  have zg : ∀ y ∈ Z ++ gad G1, y ∉ gad d.G := fun y m => by rw [e3]; exact (List.mem_append.mp m).elim (fun q w => (hZ y q).2.2 (gab y w)) fun q => (ng y q).2
  have t3 := td.last (h' := d.s.heap) (tk := d.s.toks) (zw := zw) (zg := zg) (hs := fun _ _ _ e => e) zf
  have fin : ∀ {w : Val}, (d.last (Z ++ gad G1) d.s.heap d.s.toks zw zg fun _ _ _ e => e).vv u w → z1 = w → Q u b.s := fun hw he => by
    have := h u _ t3 (he ▸ hw)
    rw [← e1]; exact this
  have dv : ∀ {w : Value} {x : D}, b.v w x → (d.last (Z ++ gad G1) d.s.heap d.s.toks zw zg fun _ _ _ e => e).v w x := fun {w x} hx => d.last_v (by show V d.wl d.s.heap w x; rw [e1, e2]; exact hx)
  rcases hv with ⟨rfl, hi⟩ | ⟨i, l, rfl, h0, hm, rfl⟩
  · cases z1 with
    | d x => exact fin (w := .d x) (dv hu) rfl
    | ref i =>
      obtain ⟨o, eo, hq⟩ := hu
      refine fin (w := .ref i) ⟨o, ?_, hq⟩ rfl
      show d.G[i]? = some o
      rw [e3]
      rw [← hG, List.getElem?_append_left (by rw [hl]; exact hi i rfl)] at eo; exact eo
  · obtain ⟨o, eo, rfl⟩ := hu
    obtain ⟨vs, il, lv⟩ := b.good.sat.at_ hm eo
    have eo2 : G1[i - a.G.length]? = some o := by rw [← hG, List.getElem?_append_right (by rw [hl]; exact h0)] at eo; exact eo
    have hno := b.good.off (b.good.own _ (gad_of eo (.head _)))
    exact fin (w := .d (.list l)) (.lst (vs := vs) (fun m => (mem_last.mp m).2 (List.mem_append_right _ (gad_of eo2 (.head _)))) hno (e1 ▸ il.il) (All2.imp (fun _ _ y => dv y) lv)) rfl
end
theorem nodup_lookup {cs : List (Str × Addr)} (h : (cs.map (·.1)).Nodup) {x : Str} {z : Addr} (m : (x, z) ∈ cs) : cs.lookup x = some z := by
  induction cs with
  | nil => cases m
  | cons q cs ih =>
    have h := List.nodup_cons.mp h
    rw [List.lookup_cons]
    rcases List.mem_cons.mp m with e | m
    · cases e; rw [beq_self_eq_true]
    · have : (x == q.1) = false := beq_eq_false_iff_ne.mpr fun w => h.1 (List.mem_map.mpr ⟨(x, z), m, w⟩)
      rw [this]; exact ih h.2 m
theorem cells_nodup {names : List (Str × NameKind)} (h : (names.map (·.1)).Nodup) : ∀ n, ((cellsFrom n names []).map (·.1)).Nodup := by
  induction names with
  | nil => intro n; exact .nil
  | cons z names ih =>
    obtain ⟨zn, zk⟩ := z
    intro n
    have h := List.nodup_cons.mp h
    unfold cellsFrom
    split
    · rw [cellsFrom_app, List.map_append]
      refine List.nodup_append.mpr ⟨ih h.2 _, by simp, fun y hy w hw e => ?_⟩
      obtain ⟨pp, hpp, hee⟩ := List.mem_map.mp hy
      have hw : w = zn := List.mem_singleton.mp hw
      exact h.1 (List.mem_map.mpr ⟨_, cellsFrom_mem names (n + 1) (x := pp.1) (a := pp.2) hpp, by rw [← hw, ← e, ← hee]⟩)
    · exact ih h.2 n
section
variable {c : Cx} {k : Nat} {st : Stmt} {ps : List Str} {fa : Addr} {fd : FuncData} {dus : List Value} {S : Sto}
set_option maxHeartbeats 1000000 in
theorem user_ok (U : FnAt c st ps fa fd dus) {vs dvs : List Val} (hdv : ∀ b : St c S, b.vvs dus dvs) {zf : Fl × Sto} {z : Val × Sto} (H : EXc ⟨c, k, ksOf (fScope st)⟩ fd.code (fBody st) (envL (ps.zip (vs ++ dvs))) S zf) (hl : vs.length + dvs.length = ps.length) (l : LV S zf z) : OpOk c (12 + k + 1) (fun us => call (.ref fa) us) vs S z := by
  intro A a us0 Q room hv0 h
  obtain ⟨o, ho, hd⟩ := U.obj
  obtain ⟨c', o', vs', t', k1, k2, k3, k4⟩ := U.code
  obtain ⟨q1, q2, q3, q4, q5, q6, q7⟩ := scopeOk_get U.sc
  have hv : a.vvs (us0 ++ dus) (vs ++ dvs) := All2.append hv0 (hdv a)
  have hlu0 : us0.length + dus.length = ps.length := by rw [All2.length hv0, All2.length (hdv a), hl]
  have hbind := U.bind us0 hlu0
  generalize (vs ++ dvs) = vs at hv H
  generalize (us0 ++ dus) = us at hv hbind
  have kn := a.good.kin
  have hsc := U.scope
  have hkind : ∀ x ∈ ps.zip us, fd.scope.names.lookup x.1 = some .local ∨ (fd.scope.names.lookup x.1 = some .cell ∧ ((cellsFrom (a.s.heap.objs.size + 1) fd.scope.names []).lookup x.1).isSome = true) := by
    intro x hx
    rw [hsc]
    rcases q6 _ (List.of_mem_zip (a := x.1) (b := x.2) hx).1 with w | w
    · exact .inl w
    · obtain ⟨y, hy⟩ := cellsFrom_has (fScope st).names (a.s.heap.objs.size + 1) (mem_of_lookup w)
      obtain ⟨y', hy'⟩ := lookup_some_of_mem hy
      exact .inr ⟨w, by rw [hy']; rfl⟩
  refine wpAny_call (codeAny_call_function room.limit (kn fa o ho) hd (by rw [hsc]; exact q2) (by rw [hsc]; exact q3) U.body ⟨c', o', vs', t', k1, kn _ _ k2, k3, k4⟩ (wpAny_mono (hbind A.in1 a.s _ kn ?_) (fun _ _ x => x) fun _ _ x => x.elim))
  rw [U.clo]
  refine wpAny_newFunctionEnv_cells (by rw [hsc]; exact q1) hkind fun env he s₁ x => ?_
  have he2 : env = callEnvC fd a.s.heap.objs.size fa := he
  subst he2
  refine ⟨a.good.lim.keeps x.toInCall.keep, codeAny_func ?_⟩
  have L0 : (callEnvC fd a.s.heap.objs.size fa).locals = a.s.heap.objs.size := rfl
  have scE : (callEnvC fd a.s.heap.objs.size fa).scope = fScope st := hsc
  have kE : ∀ y, (callEnvC fd a.s.heap.objs.size fa).kindOf y = (fScope st).names.lookup y := fun y => by show fd.scope.names.lookup y = _; rw [hsc]
  have cE : (callEnvC fd a.s.heap.objs.size fa).cells = cellsFrom (a.s.heap.objs.size + 1) (fScope st).names [] := by show cellsFrom (a.s.heap.objs.size + 1) fd.scope.names [] = _; rw [hsc]
  have gE : (callEnvC fd a.s.heap.objs.size fa).globals = 3 := U.gl
  have coE : (callEnvC fd a.s.heap.objs.size fa).code = fd.code := rfl
  have bE : (callEnvC fd a.s.heap.objs.size fa).builtins = 0 := U.bu
  generalize callEnvC fd a.s.heap.objs.size fa = env at *
  obtain ⟨h1, tk1, rfl⟩ := x.toInCall.same
  have hcl : ∀ {p : Str × Addr}, p ∈ env.cells → env.cells.lookup p.1 = some p.2 := fun {p} hp => nodup_lookup (by rw [cE]; exact cells_nodup q4 _) hp
  have hfr : ∀ y ∈ env.locals :: env.cells.map (·.2), a.s.heap.objs.size ≤ y ∧ ∃ ob, h1.get? y = some ob := by
    refine all_c (let ⟨ob, _, _, eb, _⟩ := x.toInCall.ns; ⟨x.toInCall.fresh, ob, eb⟩) fun y m => ?_
    obtain ⟨p, hp, rfl⟩ := List.mem_map.mp m
    obtain ⟨ob, eb, _⟩ := x.cell p.1 p.2 (hcl hp)
    exact ⟨by rw [← L0]; exact Nat.le_of_lt (x.above p.1 p.2 hp), ob, eb⟩
  have t0 := a.adopt_to (Z := env.locals :: env.cells.map (·.2)) (h' := h1) (tk := tk1) (k := x.toInCall.keep) (hn := hfr)
  have own_in : ∀ y ∈ own (ksOf (fScope st)) env, y ∈ env.locals :: env.cells.map (·.2) := fun y m => (List.mem_cons.mp m).elim (fun q => q ▸ .head _) fun q => let ⟨p, hp, e⟩ := List.mem_map.mp q; .tail _ (List.mem_map.mpr ⟨p, (List.mem_filter.mp hp).1, e⟩)
  have nd : (env.locals :: env.cells.map (·.2)).Nodup := List.nodup_cons.mpr ⟨fun m => by
    obtain ⟨p, hp, e⟩ := List.mem_map.mp m
    have := x.above p.1 p.2 hp
    rw [e] at this
    exact Nat.lt_irrefl _ this, List.pairwise_map.mpr x.apart⟩
  have hks : ∀ {y kk}, (ksOf (fScope st)).lookup y = some kk → ∃ nk, (fScope st).names.lookup y = some nk ∧ kindE nk = kk ∧ okKind nk = true := fun h => by
    rw [ksOf_lookup] at h
    obtain ⟨nk, e1, e2⟩ := ms h
    exact ⟨nk, e1, e2, q5 _ (mem_of_lookup e1)⟩
  have vv := t0.vvs hv
  have fm : Fm (ksOf (fScope st)) env (a.adopt (env.locals :: env.cells.map (·.2)) h1 tk1 x.toInCall.keep hfr) (envL (ps.zip vs)) := by
    refine { kind := by rw [scE]; exact q1, globals := gE, builtins := bE, mem := fun y m => List.mem_append_left _ (own_in y m), nd := nd.sublist (List.Sublist.cons₂ _ (List.Sublist.map _ List.filter_sublist)), apart := fun y m q => (a.good.fresh (hfr y (own_in y m)).1).2.2.2 (a.good.own _ q), lo := fun y q => ?_, ce := fun y q => ?_, gl := fun y q => ?_, ns := ⟨_, x.toInCall.ns, fun y w q e => ?_⟩, cl := fun y q => ?_ }
    all_goals obtain ⟨nk, e1, e2, e3⟩ := hks q
    · rw [kE, e1]; cases nk <;> first | rfl | (cases e2; done) | (cases e3; done)
    · rw [kE, e1]; cases nk <;> first | rfl | (cases e2; done) | (cases e3; done)
    · rw [kE, e1]; cases nk <;> first | rfl | (cases e2; done) | (cases e3; done)
    · rw [envL_lookup] at e
      obtain ⟨u, w1, w2⟩ := zip_vvs vv e
      exact ⟨u, bindL_get q7 (by rw [kE, e1]; cases nk <;> first | rfl | (cases e2; done) | (cases e3; done)) w1, w2⟩
    · have ek : nk = .cell := by cases nk <;> first | rfl | (cases e2; done) | (cases e3; done)
      subst ek
      obtain ⟨y', hy⟩ := cellsFrom_has (fScope st).names (a.s.heap.objs.size + 1) (mem_of_lookup e1)
      obtain ⟨y'', hy'⟩ := lookup_some_of_mem hy
      have hcy : env.cells.lookup y = some y'' := by rw [cE]; exact hy'
      refine ⟨y'', _, hcy, x.cell y y'' hcy, fun w e => ?_⟩
      rw [envL_lookup] at e
      obtain ⟨u, w1, w2⟩ := zip_vvs vv e
      exact ⟨u, bindC_get q7 (by rw [kE]; exact e1) w1, w2⟩
  refine wpAny_mono (H env (A.deeper env) (a.adopt (env.locals :: env.cells.map (·.2)) h1 tk1 x.toInCall.keep hfr) (fun f s' => Q (match f with | .ret v => v | _ => .none) s') coE ⟨room.deeper, fm⟩ fun fw b t1 hf => ?_) (fun _ _ x => x) fun _ _ x => x.elim
  obtain ⟨fl, S'⟩ := zf
  obtain ⟨z1, z2⟩ := z
  obtain ⟨u, v, hu1, hu2, hz2, hz1⟩ := hf.val l
  cases hz2
  show Q (fval fw) b.s
  rw [hu1]
  have hnone : ∀ y ∈ env.locals :: env.cells.map (·.2), a.s.heap.get? y = none := fun y m => Heap.get?_none_of_le (hfr y m).1
  exact leave_ok (t0.after t1 (fun y m => .inr (hnone y (own_in y m))) fun _ m => nomatch m) (fun y m => ⟨hnone y m, t1.sub y (List.mem_append_left _ m), t1.gnew (fun q => (a.good.fresh (hfr y m).1).2.2.2 (a.good.own _ q)) (List.mem_append_left _ m)⟩) hu2 hz1 h
end
def fdOf (o : Obj) : FuncData := match o.data with
  | .func f => f
  | _ => default
theorem ar0 {P : List Value → Prop} (h : P []) (us : List Value) (e : us.length = 0) : P us := by
  cases us with
  | nil => exact h
  | cons _ _ => cases e
theorem arS {P : List Value → Prop} {n : Nat} (h : ∀ a us, us.length = n → P (a :: us)) (us : List Value) (e : us.length = n + 1) : P us := by
  cases us with
  | nil => cases e
  | cons a us => exact h a us (Nat.succ.inj e)
theorem ar1 {P : List Value → Prop} (h : ∀ a, P [a]) : ∀ us : List Value, us.length = 1 → P us := arS fun a => ar0 (P := fun us => P (a :: us)) (h a)
theorem ar2 {P : List Value → Prop} (h : ∀ a b, P [a, b]) : ∀ us : List Value, us.length = 2 → P us := arS fun a => ar1 (P := fun us => P (a :: us)) (h a)
theorem ar3 {P : List Value → Prop} (h : ∀ a b c, P [a, b, c]) : ∀ us : List Value, us.length = 3 → P us := arS fun a => ar2 (P := fun us => P (a :: us)) (h a)
theorem ar4 {P : List Value → Prop} (h : ∀ a b c d, P [a, b, c, d]) : ∀ us : List Value, us.length = 4 → P us := arS fun a => ar3 (P := fun us => P (a :: us)) (h a)
theorem ar6 {P : List Value → Prop} (h : ∀ a b c d e f, P [a, b, c, d, e, f]) : ∀ us : List Value, us.length = 6 → P us := arS fun a => arS (P := fun us => P (a :: us)) fun b => ar4 (P := fun us => P (a :: b :: us)) (h a b)
theorem fn_of {c : Cx} {k : Nat} {st : Stmt} {ps : List Str} {a : Addr} {fd : FuncData} {g : Str} {vs : List Val} {S : Sto} {zf : Fl × Sto} {z : Val × Sto} (U : FnAt c st ps a fd []) (G : Glob c g (.ref a)) (K : CW c (.ref a)) (hl : vs.length = ps.length) (H : EXc ⟨c, k, ksOf (fScope st)⟩ fd.code (fBody st) (envL (ps.zip vs)) S zf) (l : LV S zf z) : FN c (k + 1) g vs S z :=
  ⟨_, G, K, user_ok U (dvs := []) (fun _ => .nil) (by rw [List.append_nil]; exact H) hl l⟩
theorem u_inv (c : Cx) : FnAt c (top 4) [Str.ofString "a"] 105 (fdOf (o16x105 c.w.params)) [] where
  obj := ⟨o16x105 c.w.params, by kernel_rfl, rfl⟩
  body := rfl
  scope := rfl
  clo := rfl
  gl := rfl
  bu := rfl
  code := ⟨104, o16x104 c.w.params, _, _, rfl, by kernel_rfl, rfl, rfl⟩
  bind := bind_plain (ar1 fun u0 => by kernel_rfl)
  sc := by kernel_rfl
theorem g_inv (c : Cx) : Glob c (Str.ofString "inv") (.ref 105) := glob_own (by kernel_rfl)
theorem k_inv (c : Cx) : CW c (.ref 105) := cw_func c (o := o16x105 c.w.params) (by kernel_rfl) rfl
theorem u_invert (c : Cx) : FnAt c (top 4) [Str.ofString "a"] 105 (fdOf (o16x105 c.w.params)) [] where
  obj := ⟨o16x105 c.w.params, by kernel_rfl, rfl⟩
  body := rfl
  scope := rfl
  clo := rfl
  gl := rfl
  bu := rfl
  code := ⟨104, o16x104 c.w.params, _, _, rfl, by kernel_rfl, rfl, rfl⟩
  bind := bind_plain (ar1 fun u0 => by kernel_rfl)
  sc := by kernel_rfl
theorem g_invert (c : Cx) : Glob c (Str.ofString "invert") (.ref 105) := glob_own (by kernel_rfl)
theorem k_invert (c : Cx) : CW c (.ref 105) := cw_func c (o := o16x105 c.w.params) (by kernel_rfl) rfl
theorem u_getitem (c : Cx) : FnAt c (top 6) [Str.ofString "a", Str.ofString "b"] 112 (fdOf (o16x112 c.w.params)) [] where
  obj := ⟨o16x112 c.w.params, by kernel_rfl, rfl⟩
  body := rfl
  scope := rfl
  clo := rfl
  gl := rfl
  bu := rfl
  code := ⟨111, o16x111 c.w.params, _, _, rfl, by kernel_rfl, rfl, rfl⟩
  bind := bind_plain (ar2 fun u0 u1 => by kernel_rfl)
  sc := by kernel_rfl
theorem g_getitem (c : Cx) : Glob c (Str.ofString "getitem") (.ref 112) := glob_own (by kernel_rfl)
theorem k_getitem (c : Cx) : CW c (.ref 112) := cw_func c (o := o16x112 c.w.params) (by kernel_rfl) rfl
theorem u_iadd (c : Cx) : FnAt c (top 7) [Str.ofString "a", Str.ofString "b"] 119 (fdOf (o16x119 c.w.params)) [] where
  obj := ⟨o16x119 c.w.params, by kernel_rfl, rfl⟩
  body := rfl
  scope := rfl
  clo := rfl
  gl := rfl
  bu := rfl
  code := ⟨118, o16x118 c.w.params, _, _, rfl, by kernel_rfl, rfl, rfl⟩
  bind := bind_plain (ar2 fun u0 u1 => by kernel_rfl)
  sc := by kernel_rfl
theorem g_iadd (c : Cx) : Glob c (Str.ofString "iadd") (.ref 119) := glob_own (by kernel_rfl)
theorem k_iadd (c : Cx) : CW c (.ref 119) := cw_func c (o := o16x119 c.w.params) (by kernel_rfl) rfl
theorem u_iand (c : Cx) : FnAt c (top 8) [Str.ofString "a", Str.ofString "b"] 126 (fdOf (o16x126 c.w.params)) [] where
  obj := ⟨o16x126 c.w.params, by kernel_rfl, rfl⟩
  body := rfl
  scope := rfl
  clo := rfl
  gl := rfl
  bu := rfl
  code := ⟨125, o16x125 c.w.params, _, _, rfl, by kernel_rfl, rfl, rfl⟩
  bind := bind_plain (ar2 fun u0 u1 => by kernel_rfl)
  sc := by kernel_rfl
theorem g_iand (c : Cx) : Glob c (Str.ofString "iand") (.ref 126) := glob_own (by kernel_rfl)
theorem k_iand (c : Cx) : CW c (.ref 126) := cw_func c (o := o16x126 c.w.params) (by kernel_rfl) rfl
theorem u_iconcat (c : Cx) : FnAt c (top 9) [Str.ofString "a", Str.ofString "b"] 133 (fdOf (o16x133 c.w.params)) [] where
  obj := ⟨o16x133 c.w.params, by kernel_rfl, rfl⟩
  body := rfl
  scope := rfl
  clo := rfl
  gl := rfl
  bu := rfl
  code := ⟨132, o16x132 c.w.params, _, _, rfl, by kernel_rfl, rfl, rfl⟩
  bind := bind_plain (ar2 fun u0 u1 => by kernel_rfl)
  sc := by kernel_rfl
theorem g_iconcat (c : Cx) : Glob c (Str.ofString "iconcat") (.ref 133) := glob_own (by kernel_rfl)
theorem k_iconcat (c : Cx) : CW c (.ref 133) := cw_func c (o := o16x133 c.w.params) (by kernel_rfl) rfl
theorem u_ilshift (c : Cx) : FnAt c (top 10) [Str.ofString "a", Str.ofString "b"] 140 (fdOf (o16x140 c.w.params)) [] where
  obj := ⟨o16x140 c.w.params, by kernel_rfl, rfl⟩
  body := rfl
  scope := rfl
  clo := rfl
  gl := rfl
  bu := rfl
  code := ⟨139, o16x139 c.w.params, _, _, rfl, by kernel_rfl, rfl, rfl⟩
  bind := bind_plain (ar2 fun u0 u1 => by kernel_rfl)
  sc := by kernel_rfl
theorem g_ilshift (c : Cx) : Glob c (Str.ofString "ilshift") (.ref 140) := glob_own (by kernel_rfl)
theorem k_ilshift (c : Cx) : CW c (.ref 140) := cw_func c (o := o16x140 c.w.params) (by kernel_rfl) rfl
theorem u_imul (c : Cx) : FnAt c (top 11) [Str.ofString "a", Str.ofString "b"] 147 (fdOf (o16x147 c.w.params)) [] where
  obj := ⟨o16x147 c.w.params, by kernel_rfl, rfl⟩
  body := rfl
  scope := rfl
  clo := rfl
  gl := rfl
  bu := rfl
  code := ⟨146, o16x146 c.w.params, _, _, rfl, by kernel_rfl, rfl, rfl⟩
  bind := bind_plain (ar2 fun u0 u1 => by kernel_rfl)
  sc := by kernel_rfl
theorem g_imul (c : Cx) : Glob c (Str.ofString "imul") (.ref 147) := glob_own (by kernel_rfl)
theorem k_imul (c : Cx) : CW c (.ref 147) := cw_func c (o := o16x147 c.w.params) (by kernel_rfl) rfl
theorem u_ior (c : Cx) : FnAt c (top 12) [Str.ofString "a", Str.ofString "b"] 154 (fdOf (o16x154 c.w.params)) [] where
  obj := ⟨o16x154 c.w.params, by kernel_rfl, rfl⟩
  body := rfl
  scope := rfl
  clo := rfl
  gl := rfl
  bu := rfl
  code := ⟨153, o16x153 c.w.params, _, _, rfl, by kernel_rfl, rfl, rfl⟩
  bind := bind_plain (ar2 fun u0 u1 => by kernel_rfl)
  sc := by kernel_rfl
theorem g_ior (c : Cx) : Glob c (Str.ofString "ior") (.ref 154) := glob_own (by kernel_rfl)
theorem k_ior (c : Cx) : CW c (.ref 154) := cw_func c (o := o16x154 c.w.params) (by kernel_rfl) rfl
theorem u_irshift (c : Cx) : FnAt c (top 13) [Str.ofString "a", Str.ofString "b"] 161 (fdOf (o16x161 c.w.params)) [] where
  obj := ⟨o16x161 c.w.params, by kernel_rfl, rfl⟩
  body := rfl
  scope := rfl
  clo := rfl
  gl := rfl
  bu := rfl
  code := ⟨160, o16x160 c.w.params, _, _, rfl, by kernel_rfl, rfl, rfl⟩
  bind := bind_plain (ar2 fun u0 u1 => by kernel_rfl)
  sc := by kernel_rfl
theorem g_irshift (c : Cx) : Glob c (Str.ofString "irshift") (.ref 161) := glob_own (by kernel_rfl)
theorem k_irshift (c : Cx) : CW c (.ref 161) := cw_func c (o := o16x161 c.w.params) (by kernel_rfl) rfl
theorem u_c11 (c : Cx) : FnAt c (top 15) [Str.ofString "code"] 168 (fdOf (o16x168 c.w.params)) [] where
  obj := ⟨o16x168 c.w.params, by kernel_rfl, rfl⟩
  body := rfl
  scope := rfl
  clo := rfl
  gl := rfl
  bu := rfl
  code := ⟨167, o16x167 c.w.params, _, _, rfl, by kernel_rfl, rfl, rfl⟩
  bind := bind_plain (ar1 fun u0 => by kernel_rfl)
  sc := by kernel_rfl
theorem g_c11 (c : Cx) : Glob c (Str.ofString "in_table_c11") (.ref 168) := glob_own (by kernel_rfl)
theorem k_c11 (c : Cx) : CW c (.ref 168) := cw_func c (o := o16x168 c.w.params) (by kernel_rfl) rfl
theorem u_c4 (c : Cx) : FnAt c (top 16) [Str.ofString "code"] 175 (fdOf (o16x175 c.w.params)) [] where
  obj := ⟨o16x175 c.w.params, by kernel_rfl, rfl⟩
  body := rfl
  scope := rfl
  clo := rfl
  gl := rfl
  bu := rfl
  code := ⟨174, o16x174 c.w.params, _, _, rfl, by kernel_rfl, rfl, rfl⟩
  bind := bind_plain (ar1 fun u0 => by kernel_rfl)
  sc := by kernel_rfl
theorem g_c4 (c : Cx) : Glob c (Str.ofString "in_table_c4") (.ref 175) := glob_own (by kernel_rfl)
theorem k_c4 (c : Cx) : CW c (.ref 175) := cw_func c (o := o16x175 c.w.params) (by kernel_rfl) rfl
theorem u_c8 (c : Cx) : FnAt c (top 18) [Str.ofString "code"] 199 (fdOf (o18x199 c.w.params)) [] where
  obj := ⟨o18x199 c.w.params, by kernel_rfl, rfl⟩
  body := rfl
  scope := rfl
  clo := rfl
  gl := rfl
  bu := rfl
  code := ⟨198, o18x198 c.w.params, _, _, rfl, by kernel_rfl, rfl, rfl⟩
  bind := bind_plain (ar1 fun u0 => by kernel_rfl)
  sc := by kernel_rfl
theorem g_c8 (c : Cx) : Glob c (Str.ofString "in_table_c8") (.ref 199) := glob_own (by kernel_rfl)
theorem k_c8 (c : Cx) : CW c (.ref 199) := cw_func c (o := o18x199 c.w.params) (by kernel_rfl) rfl
theorem u_c9 (c : Cx) : FnAt c (top 20) [Str.ofString "code"] 217 (fdOf (o31x217 c.w.params)) [] where
  obj := ⟨o31x217 c.w.params, by kernel_rfl, rfl⟩
  body := rfl
  scope := rfl
  clo := rfl
  gl := rfl
  bu := rfl
  code := ⟨216, o31x216 c.w.params, _, _, rfl, by kernel_rfl, rfl, rfl⟩
  bind := bind_plain (ar1 fun u0 => by kernel_rfl)
  sc := by kernel_rfl
theorem g_c9 (c : Cx) : Glob c (Str.ofString "in_table_c9") (.ref 217) := glob_own (by kernel_rfl)
theorem k_c9 (c : Cx) : CW c (.ref 217) := cw_func c (o := o31x217 c.w.params) (by kernel_rfl) rfl
theorem u_sign (c : Cx) : FnAt c (top 22) [Str.ofString "number"] 224 (fdOf (o31x224 c.w.params)) [] where
  obj := ⟨o31x224 c.w.params, by kernel_rfl, rfl⟩
  body := rfl
  scope := rfl
  clo := rfl
  gl := rfl
  bu := rfl
  code := ⟨223, o31x223 c.w.params, _, _, rfl, by kernel_rfl, rfl, rfl⟩
  bind := bind_plain (ar1 fun u0 => by kernel_rfl)
  sc := by kernel_rfl
theorem g_sign (c : Cx) : Glob c (Str.ofString "_law_sign") (.ref 224) := glob_own (by kernel_rfl)
theorem k_sign (c : Cx) : CW c (.ref 224) := cw_func c (o := o31x224 c.w.params) (by kernel_rfl) rfl
theorem u_told (c : Cx) : FnAt c (top 23) [Str.ofString "row"] 229 (fdOf (o31x229 c.w.params)) [] where
  obj := ⟨o31x229 c.w.params, by kernel_rfl, rfl⟩
  body := rfl
  scope := rfl
  clo := rfl
  gl := rfl
  bu := rfl
  code := ⟨228, o31x228 c.w.params, _, _, rfl, by kernel_rfl, rfl, rfl⟩
  bind := bind_plain (ar1 fun u0 => by kernel_rfl)
  sc := by kernel_rfl
theorem g_told (c : Cx) : Glob c (Str.ofString "_law_told") (.ref 229) := glob_own (by kernel_rfl)
theorem k_told (c : Cx) : CW c (.ref 229) := cw_func c (o := o31x229 c.w.params) (by kernel_rfl) rfl
theorem u_due (c : Cx) : FnAt c (top 24) [Str.ofString "row", Str.ofString "lead"] 234 (fdOf (o31x234 c.w.params)) [] where
  obj := ⟨o31x234 c.w.params, by kernel_rfl, rfl⟩
  body := rfl
  scope := rfl
  clo := rfl
  gl := rfl
  bu := rfl
  code := ⟨233, o31x233 c.w.params, _, _, rfl, by kernel_rfl, rfl, rfl⟩
  bind := bind_plain (ar2 fun u0 u1 => by kernel_rfl)
  sc := by kernel_rfl
theorem g_due (c : Cx) : Glob c (Str.ofString "_law_due") (.ref 234) := glob_own (by kernel_rfl)
theorem k_due (c : Cx) : CW c (.ref 234) := cw_func c (o := o31x234 c.w.params) (by kernel_rfl) rfl
theorem u_ways (c : Cx) : FnAt c (top 25) [Str.ofString "path", Str.ofString "page", Str.ofString "cell", Str.ofString "goal", Str.ofString "blank", Str.ofString "shut"] 241 (fdOf (o31x241 c.w.params)) [] where
  obj := ⟨o31x241 c.w.params, by kernel_rfl, rfl⟩
  body := rfl
  scope := rfl
  clo := rfl
  gl := rfl
  bu := rfl
  code := ⟨240, o31x240 c.w.params, _, _, rfl, by kernel_rfl, rfl, rfl⟩
  bind := bind_plain (ar6 fun u0 u1 u2 u3 u4 u5 => by kernel_rfl)
  sc := by kernel_rfl
theorem g_ways (c : Cx) : Glob c (Str.ofString "_law_ways") (.ref 241) := glob_own (by kernel_rfl)
theorem k_ways (c : Cx) : CW c (.ref 241) := cw_func c (o := o31x241 c.w.params) (by kernel_rfl) rfl
theorem u_walks (c : Cx) : FnAt c (top 26) [Str.ofString "cell", Str.ofString "goal", Str.ofString "closed"] 246 (fdOf (o31x246 c.w.params)) [] where
  obj := ⟨o31x246 c.w.params, by kernel_rfl, rfl⟩
  body := rfl
  scope := rfl
  clo := rfl
  gl := rfl
  bu := rfl
  code := ⟨245, o31x245 c.w.params, _, _, rfl, by kernel_rfl, rfl, rfl⟩
  bind := bind_plain (ar3 fun u0 u1 u2 => by kernel_rfl)
  sc := by kernel_rfl
theorem g_walks (c : Cx) : Glob c (Str.ofString "_law_walks") (.ref 246) := glob_own (by kernel_rfl)
theorem k_walks (c : Cx) : CW c (.ref 246) := cw_func c (o := o31x246 c.w.params) (by kernel_rfl) rfl
theorem u_pieces (c : Cx) : FnAt c (top 27) [Str.ofString "row", Str.ofString "signs"] 251 (fdOf (o31x251 c.w.params)) [] where
  obj := ⟨o31x251 c.w.params, by kernel_rfl, rfl⟩
  body := rfl
  scope := rfl
  clo := rfl
  gl := rfl
  bu := rfl
  code := ⟨250, o31x250 c.w.params, _, _, rfl, by kernel_rfl, rfl, rfl⟩
  bind := bind_plain (ar2 fun u0 u1 => by kernel_rfl)
  sc := by kernel_rfl
theorem g_pieces (c : Cx) : Glob c (Str.ofString "_law_pieces") (.ref 251) := glob_own (by kernel_rfl)
theorem k_pieces (c : Cx) : CW c (.ref 251) := cw_func c (o := o31x251 c.w.params) (by kernel_rfl) rfl
theorem u_read (c : Cx) : FnAt c (top 28) [Str.ofString "text", Str.ofString "cell", Str.ofString "plus", Str.ofString "minus"] 258 (fdOf (o31x258 c.w.params)) [] where
  obj := ⟨o31x258 c.w.params, by kernel_rfl, rfl⟩
  body := rfl
  scope := rfl
  clo := rfl
  gl := rfl
  bu := rfl
  code := ⟨257, o31x257 c.w.params, _, _, rfl, by kernel_rfl, rfl, rfl⟩
  bind := bind_plain (ar4 fun u0 u1 u2 u3 => by kernel_rfl)
  sc := by kernel_rfl
theorem g_read (c : Cx) : Glob c (Str.ofString "_law_read") (.ref 258) := glob_own (by kernel_rfl)
theorem k_read (c : Cx) : CW c (.ref 258) := cw_func c (o := o31x258 c.w.params) (by kernel_rfl) rfl
theorem u_exchange (c : Cx) : FnAt c (top 29) [Str.ofString "one", Str.ofString "other", Str.ofString "common"] 265 (fdOf (o31x265 c.w.params)) [] where
  obj := ⟨o31x265 c.w.params, by kernel_rfl, rfl⟩
  body := rfl
  scope := rfl
  clo := rfl
  gl := rfl
  bu := rfl
  code := ⟨264, o31x264 c.w.params, _, _, rfl, by kernel_rfl, rfl, rfl⟩
  bind := bind_plain (ar3 fun u0 u1 u2 => by kernel_rfl)
  sc := by kernel_rfl
theorem g_exchange (c : Cx) : Glob c (Str.ofString "_law_exchange") (.ref 265) := glob_own (by kernel_rfl)
theorem k_exchange (c : Cx) : CW c (.ref 265) := cw_func c (o := o31x265 c.w.params) (by kernel_rfl) rfl
theorem u_worth (c : Cx) : FnAt c (top 30) [Str.ofString "start", Str.ofString "goal", Str.ofString "worths"] 272 (fdOf (o31x272 c.w.params)) [] where
  obj := ⟨o31x272 c.w.params, by kernel_rfl, rfl⟩
  body := rfl
  scope := rfl
  clo := rfl
  gl := rfl
  bu := rfl
  code := ⟨271, o31x271 c.w.params, _, _, rfl, by kernel_rfl, rfl, rfl⟩
  bind := bind_plain (ar3 fun u0 u1 u2 => by kernel_rfl)
  sc := by kernel_rfl
theorem g_worth (c : Cx) : Glob c (Str.ofString "_law_worth") (.ref 272) := glob_own (by kernel_rfl)
theorem k_worth (c : Cx) : CW c (.ref 272) := cw_func c (o := o31x272 c.w.params) (by kernel_rfl) rfl
theorem u_law (c : Cx) : FnAt c (top 31) [Str.ofString "script"] 277 (fdOf (o31x277 c.w.params)) [] where
  obj := ⟨o31x277 c.w.params, by kernel_rfl, rfl⟩
  body := rfl
  scope := rfl
  clo := rfl
  gl := rfl
  bu := rfl
  code := ⟨276, o31x276 c.w.params, _, _, rfl, by kernel_rfl, rfl, rfl⟩
  bind := bind_plain (ar1 fun u0 => by kernel_rfl)
  sc := by kernel_rfl
theorem g_law (c : Cx) : Glob c (Str.ofString "law") (.ref 277) := glob_own (by kernel_rfl)
theorem k_law (c : Cx) : CW c (.ref 277) := cw_func c (o := o31x277 c.w.params) (by kernel_rfl) rfl
abbrev emptyS : Str := Str.ofString ""
def sumI : List Int → Int
  | [] => 0
  | a :: l => a + sumI l
def catS (l : List Str) : Str := Txt.join emptyS l
theorem few_true {es : List Expr} {env : Env} {pos : Pos} (hs : es.any isStar = false) (hl : es.length < 30) : methodCallForm (es.length + ([] : List Keyword).length) (backTo pos (starEach es env)) (backToKw pos (keywordEach [] env)) = true := by
  unfold methodCallForm
  have h1 : (backTo pos (starEach es env)).all (fun x => !x.1) = true := by
    have h2 : (backTo pos (starEach es env)).any (·.1) = false := noStar_any (pos := pos) hs
    rw [List.all_eq_true]
    intro x m
    cases hx : x.1 with
    | false => rfl
    | true => exact absurd (List.any_eq_true.mpr ⟨x, m, hx⟩) (by rw [h2]; simp)
  simp only [h1, Bool.true_and, Bool.and_eq_true, decide_eq_true_eq]
  refine ⟨rfl, ?_⟩
  show es.length + 0 + 0 < 30
  omega
theorem methodCall_few {M : Model} {A : Around} {E : Value → Shared → Prop} {s : Shared} {oe : Expr} {m : Str} {apos pos : Pos} {env : Env} {u : Value} {es : List Expr} {Q : Value → Shared → Prop} (hs : es.any isStar = false) (hl : es.length < 30) (hp : (apos.endLine == pos.line) = true)
    (h : ∀ pl, wpAny M A (getMethod u m pl) (fun r s' => wpAny M A (callWith pos r.1 r.2 (backTo pos (starEach es env)) []) Q E s') E s) :
    wpAny M A (methodCall oe m apos pos env u (es.length + ([] : List Keyword).length) (backTo pos (starEach es env)) (backToKw pos (keywordEach [] env))) Q E s := by
  unfold methodCall
  rw [few_true hs hl]
  refine wpAny_bind (wpAny_holding ?_)
  unfold calleeOf
  rw [if_pos rfl]
  refine wpAny_mono (h _) (fun r s' hr => ?_) fun _ _ x => x
  obtain ⟨f, first⟩ := r
  refine wpAny_bind ?_
  unfold methodCallPos
  rw [if_pos (by simp [hp])]
  exact wpAny_pure hr
section
variable {c : Cx} {k : Nat} {S : Sto}
theorem fn_boot {g : String} {vs : List Val} {z : Val × Sto} (e : nsIn (zK c.w.params) 3 (Str.ofString g) = some none) (e0 : nsIn (zK c.w.params) 0 (Str.ofString g) = some (some (.builtin g))) (h : OpOk c (12 + k) (fun us => call (.builtin g) us) vs S z) : FN c k (Str.ofString g) vs S z := ⟨_, glob_boot e e0, cw_builtin c g, h⟩
theorem op1 {n : Nat} {t : List Value → Sem Value} {v : Val} {z : Val × Sto} (h : ∀ (A : Around) (a : St c S) (u : Value) (Q : Value → Shared → Prop), Room n A → a.vv u v → (∀ u (b : St c z.2), To [] a b → b.vv u z.1 → Q u b.s) → wpAny (model pw c.w) A (t [u]) Q noE a.s) : OpOk c n t [v] S z := fun A a us Q room hv hh => by
  obtain ⟨u, rfl, hu⟩ := hv.one_
  exact h A a u Q room hu hh
theorem fn_len_list {l : List D} (hl : l.length ≤ sizeLine) : FN c k (Str.ofString "len") [.d (.list l)] S (.d (.int (l.length : Nat)), S) := fn_boot (by kernel_rfl) (by kernel_rfl) (op1 fun A a u Q room hu h => by
  obtain ⟨x, vs, rfl, _, _, il, lv⟩ := V.lst_ hu
  have e : vs.toArray.size = l.length := lv.length
  exact call_len_list il (by rw [e]; simp only [sizeLine] at hl; omega) (h _ (a.tok _) a.tok_to (by rw [e]; exact .int _ _)))
theorem fn_len_str {x : Str} (hl : x.length ≤ sizeLine) : FN c k (Str.ofString "len") [.d (.str x)] S (.d (.int (x.length : Nat)), S) := fn_boot (by kernel_rfl) (by kernel_rfl) (op1 fun A a u Q room hu h => by
  obtain ⟨t, rfl⟩ := V.str_ hu
  exact PyProof.Rows.len_str (by simp only [sizeLine] at hl; omega) (h _ _ a.tok_to (.int _ _)))
theorem fn_chr {i : Int} (hi : 0 ≤ i ∧ i ≤ 0x10FFFF) : FN c k (Str.ofString "chr") [.d (.int i)] S (.d (.str ⟨#[i.toNat]⟩), S) := fn_boot (by kernel_rfl) (by kernel_rfl) (op1 fun A a u Q room hu h => by
  obtain ⟨t, rfl⟩ := V.int_ hu
  exact P.chr_of_int (by simp only [Bool.or_eq_false_iff, decide_eq_false_iff_not]; omega) (h _ _ a.tok_to (.str _ _)))
theorem fn_ord {x : Nat} : FN c k (Str.ofString "ord") [.d (.str ⟨#[x]⟩)] S (.d (.int (x : Nat)), S) := fn_boot (by kernel_rfl) (by kernel_rfl) (op1 fun A a u Q room hu h => by
  obtain ⟨t, rfl⟩ := V.str_ hu
  exact P.ord_of_char (h _ _ a.tok_to (.int _ _)))
theorem vs_strs {a : St c S} {ts : List Str} : ∀ {vs : List Value}, a.vs vs (ts.map .str) → ∃ ps : List (Str × Tok), strValues ps = vs ∧ ps.map (·.1) = ts := by
  induction ts with
  | nil => intro vs h; cases h.nil_; exact ⟨[], rfl, rfl⟩
  | cons t ts ih =>
    intro vs h
    obtain ⟨u, us, rfl, h1, h2⟩ := All2.cons_ h
    obtain ⟨tk, rfl⟩ := h1.str_
    obtain ⟨ps, p1, p2⟩ := ih h2
    exact ⟨(t, tk) :: ps, by rw [← p1]; rfl, by rw [← p2]; rfl⟩
theorem mlook_list : MLook c (Str.ofString "append") 1 (.builtin "list.append") := by
  intro S A a u o oe apos pos env es Q hu hk hs hl hp h
  cases hk with
  | lst hS =>
    obtain ⟨ho, eo, rfl⟩ := hu
    obtain ⟨vs, ⟨n, e⟩, lv⟩ := a.good.sat.at_ hS eo
    exact methodCall_few hs hl hp fun pl => getMethod_list_append e rfl rfl (h pos)
theorem mlook_join : MLook c (Str.ofString "join") 3 (.builtin "str.join") := by
  intro S A a u o oe apos pos env es Q hu hk hs hl hp h
  cases hk with
  | str =>
    obtain ⟨t, rfl⟩ := V.str_ hu
    exact methodCall_few hs hl hp fun pl => GM.join (h pos)
theorem me_join {x : Str} {ts : List Str} (ok : JoinOk x ts = true) : ME c k (Str.ofString "join") (.d (.str x)) [.d (.list (ts.map .str))] S (.d (.str (Txt.join x ts)), S) := ⟨_, 3, .str, mlook_join, cw_builtin c _, fun A a us Q room hv h => by
  obtain ⟨u, us, rfl, h1, h2⟩ := hv.cons_
  obtain ⟨w, rfl, h3⟩ := h2.one_
  obtain ⟨t, rfl⟩ := V.str_ h1
  obtain ⟨z, vs, rfl, _, _, il, lv⟩ := V.lst_ h3
  obtain ⟨ps, p1, p2⟩ := vs_strs (a := a) lv
  rw [← p1] at il
  exact SC.join il p2 ok fun t' k => h _ _ a.tok_to (.str _ _)⟩
theorem me_append {i : Nat} {l : List D} {x : D} (e : S[i]? = some (.list l)) (hl : l.length < sizeLine) : ME c k (Str.ofString "append") (.ref i) [.d x] S (.d .none, S.set i (.list (l ++ [x]))) := ⟨_, 1, .lst e, mlook_list, cw_builtin c _, fun A a us Q room hv h => by
  obtain ⟨u, us, rfl, ⟨o, eo, rfl⟩, h2⟩ := hv.cons_
  obtain ⟨w, rfl, h3⟩ := h2.one_
  obtain ⟨vs, il, lv⟩ := a.good.sat.at_ e eo
  refine wpAny_list_append_plain il.plain (fun h' il' hs => ?_) (by have := lv.length; simp; omega)
  obtain ⟨b, hb, t, _⟩ := a.set1 (tk := a.s.toks) (m' := .list (l ++ [x])) eo e rfl hs (let ⟨_, e⟩ := il'; ⟨_, e⟩) fun vk => ⟨vs ++ [w], by
    have : vs.toArray.push w = (vs ++ [w]).toArray := by simp
    rw [← this]; exact isL_of il', (lv.imp vk).append (.cons (vk _ _ h3) .nil)⟩
  have := h .none b t .none
  rw [hb] at this; exact this⟩
end
abbrev iniS : Str := Str.ofString "_initial_size"
abbrev selfS : Str := Str.ofString "self"
@[elab_as_elim] theorem All2.cs {α β : Type} {R : α → β → Prop} {l : List α} {b : β} {m : List β} {P : List α → Prop} (x : All2 R l (b :: m)) (h : ∀ a l', R a b → All2 R l' m → P (a :: l')) : P l := by
  obtain ⟨a, l', rfl, h1, h2⟩ := x.cons_
  exact h a l' h1 h2
@[elab_as_elim] theorem All2.one {α β : Type} {R : α → β → Prop} {l : List α} {b : β} {P : List α → Prop} (x : All2 R l [b]) (h : ∀ a, R a b → P [a]) : P l := by
  obtain ⟨a, rfl, h1⟩ := x.one_
  exact h a h1
@[elab_as_elim] theorem V.lsts {wl : List Addr} {h : Heap} {u : Value} {l : List D} {P : Value → Prop} (x : V wl h u (.list l)) (hh : ∀ a vs, a ∉ wl → a ∉ tabs → h.IsList a vs.toArray → Vs wl h vs l → P (.ref a)) : P u := by
  obtain ⟨a, vs, rfl, h1, h2, h3, h4⟩ := x.lst_
  exact hh a vs h1 h2 h3 h4
@[elab_as_elim] theorem V.ints {wl : List Addr} {h : Heap} {u : Value} {i : Int} {P : Value → Prop} (x : V wl h u (.int i)) (hh : ∀ t, P (.int i t)) : P u := by
  obtain ⟨t, rfl⟩ := x.int_
  exact hh t
@[elab_as_elim] theorem V.strs {wl : List Addr} {h : Heap} {u : Value} {i : Str} {P : Value → Prop} (x : V wl h u (.str i)) (hh : ∀ t, P (.str i t)) : P u := by
  obtain ⟨t, rfl⟩ := x.str_
  exact hh t
theorem accDict_ns1 {P : Params} {h : Heap} {dx : Addr} {k : Int} {t : DO k} {t' : Unit} (e : h.get? dx = some (accDict P k t t')) {R : Prop} (hr : ∀ tok, h.Ns1 dx (fun x => if x = iniS then some (.int k tok) else none) → R) : R := by
  have q := t.2
  obtain ⟨es, ep, tok, h1, h2, h3, h4⟩ := q
  exact hr tok ⟨_, es, ep, e, h1, h2, h3, h4⟩
theorem acc_getMethod {c : Cx} {A : Around} {E : Value → Shared → Prop} {s : Shared} {a dx : Addr} {vs : List Value} {n : Nat} {k : Int} {t : DO k} {t' : Unit} {name : Str} {fv tf : Value} {pl : Sem Bool} {Q : Value × List Value → Shared → Prop} (ho : s.heap.get? a = some (accObj dx vs n)) (hd : s.heap.get? dx = some (accDict c.w.params k t t')) (K : (zK c.w.params).In s.heap)
    (e : findIn (zK c.w.params) (.ref 94) name = some (some fv)) (et : peek (zK c.w.params) ⟨pw, c.w.params⟩ (typeOf fv) = some tf) (ok : (tf == .type "function" || tf == .type "method_descriptor") = true) (hn : name ≠ iniS)
    (h : Q (fv, [.ref a]) s) : wpAny (model pw c.w) A (getMethod (.ref a) name pl) Q E s := by
  unfold getMethod
  refine wpAny_bind (acc_special ho K (r := some (.builtin "list.__getattribute__")) (by kernel_rfl) ?_)
  show wpAny _ A (if (Manifest.canonical "list.__getattribute__" != "object.__getattribute__") = true then _ else _) Q E s
  rw [if_neg (by decide +kernel)]
  refine wpAny_bind (acc_special ho K (r := none) (by kernel_rfl) ?_)
  rw [if_neg (by simp)]
  refine wpAny_bind (acc_special ho K e ?_)
  refine wpAny_bind (Looks.here (Looks.of_peek K et) ?_)
  rw [if_neg (by
    rcases Bool.or_eq_true_iff.mp ok with q | q <;> rw [beq_iff_eq.mp q] <;> decide)]
  dsimp only
  refine wpAny_bind (wpAny_loadPart ho ?_)
  dsimp only [accObj]
  refine accDict_ns1 hd fun tok hns => ?_
  refine wpAny_bind (wpAny_nsGet hns.ns ?_)
  rw [if_neg hn]
  simp only [Option.isSome_none, Bool.false_eq_true, if_false]
  exact wpAny_bind (wpAny_rule (wpAny_pure h))
theorem slotA_append : SlotA "list.append" "append" := ⟨by decide +kernel, by first | exact .inl (by decide +kernel) | exact .inr (by decide +kernel), by decide +kernel⟩
section
variable {c : Cx} {S : Sto} {i k0 : Nat} {l l' : List D} {k k' : Int} {u : Value}
@[elab_as_elim] theorem St.ac (a : St c S) {P : Value → Prop} (hu : a.vv u (.ref i)) (e : S[i]? = some (.acc l k)) (h : ∀ {o : Ho} {dx : Addr} {vs : List Value} {n : Nat} {t : DO k} {t' : Unit}, a.G[i]? = some o → o.dx = some dx → a.s.heap.get? o.a = some (accObj dx vs n) → a.s.heap.get? dx = some (accDict c.w.params k t t') → a.vs vs l → P (.ref o.a)) : P u := by
  obtain ⟨o, eo, rfl⟩ := hu
  obtain ⟨dx, vs, n, t, t', e1, e2, e3, e4⟩ := a.good.sat.at_ e eo
  exact h eo e1 e2 e3 e4
theorem dx_ne {G : Gh} {o : Ho} {dx : Addr} (nd : (gad G).Nodup) (eo : G[i]? = some o) (edx : o.dx = some dx) : dx ≠ o.a := fun q => by
  have n := (List.pairwise_flatMap.mp nd).1 o (List.mem_of_getElem? eo)
  rw [Ho.all, edx, q] at n
  exact (List.pairwise_cons.mp n).1 o.a (.head _) rfl
theorem St.accSet (a : St c S) {tk : Nat} {f : Array Value → Array Value} {o : Ho} {dx : Addr} {vs vs' : List Value} {n : Nat} {t : DO k} {t' : Unit} (em : S[i]? = some (.acc l k)) (eo : a.G[i]? = some o) (edx : o.dx = some dx) (ho : a.s.heap.get? o.a = some (accObj dx vs n)) (hd : a.s.heap.get? dx = some (accDict c.w.params k t t'))
    (hf : f vs.toArray = vs'.toArray) (hv : a.vs vs' l') : ∃ b : St c (S.set i (.acc l' k)), b.s = { a.s with heap := a.s.heap.update o.a (Obj.mapSeq f), toks := tk } ∧ To [] a b := by
  have hs := Heap.SameBut.update a.s.heap o.a (Obj.mapSeq f)
  obtain ⟨n', g⟩ : ∃ n', (a.s.heap.update o.a (Obj.mapSeq f)).get? o.a = some (accObj dx vs' n') := by
    rw [Heap.get?_update_self (Obj.mapSeq f) ho rfl]
    simp only [accObj, Obj.mapSeq, hf]
    exact ⟨_, rfl⟩
  obtain ⟨b, hb, t, _⟩ := a.set1 (tk := tk) (m' := .acc l' k) eo em rfl hs ⟨_, g⟩ fun vk => ⟨dx, vs', n', t, t', edx, g, (hs.2 _ (dx_ne a.good.nd eo edx)).trans hd, hv.imp vk⟩
  exact ⟨b, hb, t⟩
theorem mlook_acc {m : Str} {fv tf : Value} (e : findIn (zK c.w.params) (.ref 94) m = some (some fv)) (et : peek (zK c.w.params) ⟨pw, c.w.params⟩ (typeOf fv) = some tf) (ok : (tf == .type "function" || tf == .type "method_descriptor") = true) (hn : m ≠ iniS) : MLook c m 2 fv := by
  intro S A a u o oe apos pos env es Q hu hk hs hl hp h
  cases hk with
  | acc hS => revert h; exact a.ac hu hS fun _ _ ho hd _ h => methodCall_few hs hl hp fun pl => acc_getMethod ho hd a.good.kin e et ok hn (h pos)
theorem me_f {m : Str} {f : Addr} {o : Obj} {fd : FuncData} {vs : List Val} {z : Val × Sto} (e : findIn (zK c.w.params) (.ref 94) m = some (some (.ref f))) (et : peek (zK c.w.params) ⟨pw, c.w.params⟩ (typeOf (.ref f)) = some (.type "function")) (hn : m ≠ iniS) (ho : (zK c.w.params).lookup f = some o) (hd : o.data = .func fd) (eS : S[i]? = some (.acc l k)) (h : OpOk c (12 + k0) (fun us => call (.ref f) us) (.ref i :: vs) S z) : ME c k0 m (.ref i) vs S z :=
  ⟨_, 2, .acc eS, mlook_acc e et rfl hn, cw_func c ho hd, h⟩
theorem me_appendA {x : D} (eS : S[i]? = some (.acc l k)) (hl : l.length < sizeLine) : ME c k0 (Str.ofString "append") (.ref i) [.d x] S (.d .none, S.set i (.acc (l ++ [x]) k)) := ⟨.builtin "list.append", 2, .acc eS, mlook_acc (tf := .type "method_descriptor") (by kernel_rfl) (by kernel_rfl) rfl (by decide +kernel), cw_builtin c _, fun A a us Q room hv h => by
  refine hv.cs fun u us h1 h2 => h2.one fun w h3 => ?_
  refine a.ac h1 eS fun {o dx vs n t t'} eo ed ho hd lv => ?_
  obtain ⟨b, hb, t⟩ := a.accSet (tk := a.s.toks) (f := (·.push w)) (l' := l ++ [x]) eS eo ed ho hd (vs' := vs ++ [w]) (List.push_toArray _ _) (lv.append (.cons h3 .nil))
  have := h .none b t .none
  rw [hb] at this
  have hsz : vs.length < sizeLine := by rw [lv.length]; exact hl
  refine slotA_append.call entry_list_append ho a.good.kin (args_list_append _ _) ?_
  show wpAny _ _ (updateSeq o.a (·.push w) >>= fun _ => ret .none) _ _ a.s
  exact wpAny_bind (wpAny_updateSeq ho rfl (wpAny_pure ⟨_, rfl, this⟩) (Nat.le_of_lt hsz) (by rw [Array.size_push]; exact Nat.succ_le_succ (Nat.le_of_lt hsz)))⟩
end
theorem bind_peek {c : Cx} {ps : List Str} {fd : FuncData} {dus : List Value} (m : Nat) (hm : ps.length = m + dus.length) (h : ∀ us : List Value, us.length = m → peek (zK c.w.params) ⟨pw, c.w.params⟩ (bindArgs fd ⟨us, []⟩) = some (ps.zip (us ++ dus))) : ∀ us : List Value, us.length + dus.length = ps.length → ∀ (A : Around) (s : Shared) (Q : List (Str × Value) → Shared → Prop), (zK c.w.params).In s.heap → Q (ps.zip (us ++ dus)) s → wpAny (model pw c.w) A (bindArgs fd ⟨us, []⟩) Q noE s :=
  fun us hl A s Q K hq => Looks.here (Looks.of_peek K (h us (Nat.add_right_cancel (hl.trans hm)))) hq
theorem m_push (c : Cx) : FnAt c (cls 2 1) [Str.ofString "self", Str.ofString "fws", Str.ofString "string"] 38 (fdOf (o2x38 c.w.params)) [] where
  obj := ⟨o2x38 c.w.params, by kernel_rfl, rfl⟩
  body := rfl
  scope := rfl
  clo := rfl
  gl := rfl
  bu := rfl
  code := ⟨37, o2x37 c.w.params, _, _, rfl, by kernel_rfl, rfl, rfl⟩
  bind := bind_plain (ar3 fun u0 u1 u2 => by kernel_rfl)
  sc := by kernel_rfl
theorem m_pop_from (c : Cx) : FnAt c (cls 2 2) [Str.ofString "self", Str.ofString "i"] 46 (fdOf (o2x46 c.w.params)) [] where
  obj := ⟨o2x46 c.w.params, by kernel_rfl, rfl⟩
  body := rfl
  scope := rfl
  clo := rfl
  gl := rfl
  bu := rfl
  code := ⟨45, o2x45 c.w.params, _, _, rfl, by kernel_rfl, rfl, rfl⟩
  bind := bind_peek 2 rfl (ar2 fun u0 u1 => by kernel_rfl)
  sc := by kernel_rfl
theorem m_pop_from0 (c : Cx) : FnAt c (cls 2 2) [Str.ofString "self", Str.ofString "i"] 46 (fdOf (o2x46 c.w.params)) [.int 0 222] where
  obj := ⟨o2x46 c.w.params, by kernel_rfl, rfl⟩
  body := rfl
  scope := rfl
  clo := rfl
  gl := rfl
  bu := rfl
  code := ⟨45, o2x45 c.w.params, _, _, rfl, by kernel_rfl, rfl, rfl⟩
  bind := bind_peek 1 rfl (ar1 fun u0 => by kernel_rfl)
  sc := by kernel_rfl
theorem m_len (c : Cx) : FnAt c (cls 2 4) [Str.ofString "self"] 61 (fdOf (o2x61 c.w.params)) [] where
  obj := ⟨o2x61 c.w.params, by kernel_rfl, rfl⟩
  body := rfl
  scope := rfl
  clo := rfl
  gl := rfl
  bu := rfl
  code := ⟨60, o2x60 c.w.params, _, _, rfl, by kernel_rfl, rfl, rfl⟩
  bind := bind_plain (ar1 fun u0 => by kernel_rfl)
  sc := by kernel_rfl
theorem m_str (c : Cx) : FnAt c (cls 2 5) [Str.ofString "self"] 68 (fdOf (o2x68 c.w.params)) [] where
  obj := ⟨o2x68 c.w.params, by kernel_rfl, rfl⟩
  body := rfl
  scope := rfl
  clo := rfl
  gl := rfl
  bu := rfl
  code := ⟨67, o2x67 c.w.params, _, _, rfl, by kernel_rfl, rfl, rfl⟩
  bind := bind_plain (ar1 fun u0 => by kernel_rfl)
  sc := by kernel_rfl
theorem m_reset (c : Cx) : FnAt c (cls 2 6) [Str.ofString "self", Str.ofString "startval"] 76 (fdOf (o2x76 c.w.params)) [] where
  obj := ⟨o2x76 c.w.params, by kernel_rfl, rfl⟩
  body := rfl
  scope := rfl
  clo := rfl
  gl := rfl
  bu := rfl
  code := ⟨75, o2x75 c.w.params, _, _, rfl, by kernel_rfl, rfl, rfl⟩
  bind := bind_peek 2 rfl (ar2 fun u0 u1 => by kernel_rfl)
  sc := by kernel_rfl
theorem m_reset0 (c : Cx) : FnAt c (cls 2 6) [Str.ofString "self", Str.ofString "startval"] 76 (fdOf (o2x76 c.w.params)) [.none] where
  obj := ⟨o2x76 c.w.params, by kernel_rfl, rfl⟩
  body := rfl
  scope := rfl
  clo := rfl
  gl := rfl
  bu := rfl
  code := ⟨75, o2x75 c.w.params, _, _, rfl, by kernel_rfl, rfl, rfl⟩
  bind := bind_peek 1 rfl (ar1 fun u0 => by kernel_rfl)
  sc := by kernel_rfl
theorem m_is_onlyws (c : Cx) : FnAt c (cls 2 7) [Str.ofString "self"] 83 (fdOf (o2x83 c.w.params)) [] where
  obj := ⟨o2x83 c.w.params, by kernel_rfl, rfl⟩
  body := rfl
  scope := rfl
  clo := rfl
  gl := rfl
  bu := rfl
  code := ⟨82, o2x82 c.w.params, _, _, rfl, by kernel_rfl, rfl, rfl⟩
  bind := bind_plain (ar1 fun u0 => by kernel_rfl)
  sc := by kernel_rfl
section
variable {c : Cx} {S : Sto} {i k0 : Nat} {l : List D} {k : Int}
theorem lv_none {e : En} {S' : Sto} (h : S'.length = S.length) : LV S (.next e, S') (.d .none, S') := by
  have := LV.none (S := S) (e := e) (S' := S'); rwa [List.take_of_length_le (Nat.le_of_eq h)] at this
theorem lv_data {x : D} {S' : Sto} (h : S'.length = S.length) : LV S (.ret (.d x), S') (.d x, S') := by
  have := LV.data (S := S) (x := x) (S' := S'); rwa [List.take_of_length_le (Nat.le_of_eq h)] at this
theorem lv_d0 {x : D} : LV S (.ret (.d x), S) (.d x, S) := lv_data rfl
theorem lv_old {j : Nat} {S' : Sto} (h : S'.length = S.length) (hj : j < S.length) : LV S (.ret (.ref j), S') (.ref j, S') := by
  have := LV.old (S := S) (S' := S') hj; rwa [List.take_of_length_le (Nat.le_of_eq h)] at this
theorem me_push {x y : D} (eS : S[i]? = some (.acc l k)) (hl : l.length < sizeLine) : ME c (k0 + 1) (Str.ofString "push") (.ref i) [.d x, .d y] S (.d .none, S.set i (.acc (l ++ [.tuple [x, y]]) k)) := by
  exact me_f (f := 38) (o := o2x38 c.w.params) (by kernel_rfl) (by kernel_rfl) (by decide +kernel) (by kernel_rfl) rfl eS (user_ok (m_push c) (dvs := []) (fun _ => .nil) (EX.c (x_expr (fun _ => rfl) (e_me rfl (by decide) (by decide) (e_name (by kernel_rfl) rfl) (v_cons rfl (e_tuple (v_cons rfl (e_name (by kernel_rfl) rfl) (v_cons rfl (e_name (by kernel_rfl) rfl) v_nil)) rfl (Nat.le_of_ble_eq_true rfl)) v_nil) (fun _ h => h) (me_appendA eS hl)) x_nil)) rfl (lv_none List.length_set))
end
theorem slotA_setitem : SlotA "list.__setitem__" "__setitem__" := ⟨by decide +kernel, by first | exact .inl (by decide +kernel) | exact .inr (by decide +kernel), by decide +kernel⟩
def stOf (lo : Option Int) (n : Nat) : Nat := (sliceBounds lo none none n).1.toNat
def setF (lo : Option Int) (n : Nat) (ws : List Value) (xs : Array Value) : Array Value := xs.extract 0 (sliceBounds lo none none n).1.toNat ++ ws.toArray ++ xs.extract (max (sliceBounds lo none none n).1 (sliceBounds lo none none n).2.1).toNat xs.size
theorem setF_is {vs ws : List Value} {lo : Option Int} : setF lo vs.length ws vs.toArray = (vs.take (stOf lo vs.length) ++ ws).toArray := by
  have h2 : (sliceBounds lo none none vs.length).2.1 = (vs.length : Int) := rfl
  unfold setF stOf
  rw [h2]
  generalize (sliceBounds lo none none vs.length).1 = b
  have h4 : vs.length ≤ (max b (vs.length : Int)).toNat := Int.le_toNat (Int.le_trans (Int.natCast_nonneg _) (Int.le_max_right _ _)) |>.mpr (Int.le_max_right _ _)
  apply Array.toList_inj.mp
  rw [Array.toList_append, Array.toList_append, Array.toList_extract, Array.toList_extract, List.size_toArray]
  show vs.extract 0 b.toNat ++ ws ++ vs.extract _ _ = _
  rw [List.extract_eq_take_drop, List.extract_eq_take_drop, List.drop_eq_nil_of_le h4, List.take_nil, List.append_nil]; rfl
theorem w_neg {M : Model} {A : Around} {α : Type} {x y : Sem α} {Q : α → Shared → Prop} {E : Value → Shared → Prop} {s : Shared} {p : Prop} [Decidable p] (h : ¬ p) (k : wpAny M A y Q E s) : wpAny M A (if p then x else y) Q E s := by rw [if_neg h]; exact k
theorem w_pos {M : Model} {A : Around} {α : Type} {x y : Sem α} {Q : α → Shared → Prop} {E : Value → Shared → Prop} {s : Shared} {p : Prop} [Decidable p] (h : p) (k : wpAny M A x Q E s) : wpAny M A (if p then x else y) Q E s := by rw [if_pos h]; exact k
theorem w_eq {M : Model} {A : Around} {α : Type} {x y : Sem α} {Q : α → Shared → Prop} {E : Value → Shared → Prop} {s : Shared} (h : x = y) (k : wpAny M A y Q E s) : wpAny M A x Q E s := h ▸ k
section
variable {c : Cx} {A : Around} {E : Value → Shared → Prop} {s : Shared} {a dx : Addr} {vs : List Value} {n : Nat}
theorem acc_getSlice {sl : Addr} {vl vu vt : Value} {lo hi st : Option Int} {Q : Value → Shared → Prop} (ho : s.heap.get? a = some (accObj dx vs n)) (K : (zK c.w.params).In s.heap) (hs : s.heap.IsSliceOf sl vl vu vt) (pl : IsPart vl lo) (pu : IsPart vu hi) (ps : IsPart vt st) (h0 : st ≠ some 0) (hsz : vs.length ≤ sizeLine)
    (h : Q (.ref s.heap.objs.size) { s with heap := s.heap.push { cls := .type "list", data := .seq (slicePick vs.toArray lo hi st) } }) : wpAny (model pw c.w) A (getItem (.ref a) (.ref sl)) Q E s := by
  obtain ⟨os, hos, hcs, hds⟩ := id hs
  have hTs : s.TypeIs (.ref sl) "slice" := ⟨os, hos, hcs⟩
  unfold getItem
  try with_reducible refine wpAny_holding ?_
  first | refine wpAny_bind (wpAny_pure ?_) | skip
  refine wpAny_bind (acc_key ho K ?_)
  refine wpAny_bind (acc_callSpecial ho K (id := "list.__getitem__") (by kernel_rfl) slot_list_getitem.bind (slotA_getitem.call entry_list_getitem ho K (args_list_getitem _ _) ?_))
  show wpAny _ _ (Builtin.List.listSubscript? (.ref sl) >>= _) _ _ s
  refine wpAny_bind ?_
  unfold Builtin.List.listSubscript?
  refine wpAny_bind (wpAny_specialOf hTs slice_no_index ?_)
  refine w_pos rfl (wpAny_pure ?_)
  refine wpAny_bind (wpAny_typeOf hTs (w_neg (by decide) ?_))
  have hstep : ¬ ((rawPart st == rawInt 0) = true) := by
    cases st with
    | none => exact Bool.false_ne_true
    | some c => exact fun hh => h0 (congrArg some (Value.int.inj (eq_of_beq hh)).1)
  refine wpAny_bind (w_eq (listSliceParts_eq _) ?_)
  refine wpAny_bind (wpAny_field hos hds (x := vt) rfl (wpAny_bind (wpAny_listPart ps (w_neg hstep ?_))))
  refine wpAny_bind (wpAny_field hos hds (x := vl) rfl (wpAny_bind (wpAny_listPart pl ?_)))
  refine wpAny_bind (wpAny_field hos hds (x := vu) rfl (wpAny_bind (wpAny_listPart pu (wpAny_pure ?_))))
  refine wpAny_bind (m := Builtin.List.listItems (.ref a)) ?_
  unfold Builtin.List.listItems
  refine wpAny_bind (wpAny_seqItems ho rfl (wpAny_pure ?_))
  refine wpAny_bind (wpAny_of_eq (sliceIndices_raw lo hi st vs.toArray.size h0) ?_)
  exact wpAny_bind (wpAny_newObj_type (wpAny_pure ⟨_, rfl, wpAny_pure h⟩) (Nat.le_trans (slicePick_size_le vs.toArray lo hi st) hsz))
theorem acc_setSlice {b sl : Addr} {ws : List Value} {vl : Value} {lo : Option Int} {Q : Unit → Shared → Prop} (ho : s.heap.get? a = some (accObj dx vs n)) (K : (zK c.w.params).In s.heap) (hb : s.heap.IsList b ws.toArray) (hab : b ≠ a) (hs : s.heap.IsSliceOf sl vl .none .none) (pl : IsPart vl lo) (hsz : vs.length + ws.length ≤ sizeLine)
    (h : Q () { s with heap := s.heap.update a (Obj.mapSeq (setF lo vs.length ws)) }) : wpAny (model pw c.w) A (setItem (.ref a) (.ref sl) (.ref b)) Q E s := by
  obtain ⟨os, hos, hcs, hds⟩ := id hs
  obtain ⟨ob, hob, hcb, nb, hdb⟩ := id hb
  have hTs : s.TypeIs (.ref sl) "slice" := ⟨os, hos, hcs⟩
  have hl1 : vs.length ≤ sizeLine := Nat.le_trans (Nat.le_add_right _ _) hsz
  have hl2 : (setF lo vs.length ws vs.toArray).size ≤ sizeLine := by
    rw [setF_is, List.size_toArray, List.length_append]
    exact Nat.le_trans (Nat.add_le_add_right (List.length_take_le' _ _) _) hsz
  have hbig : ¬ (Builtin.List.listTooLong (vs.length + ws.length) = true) := fun q => Nat.lt_irrefl _ (Nat.lt_of_lt_of_le (of_decide_eq_true q) (Nat.le_trans hsz (by decide)))
  unfold setItem
  try with_reducible refine wpAny_holding ?_
  first | refine wpAny_bind (wpAny_pure ?_) | skip
  refine wpAny_bind (acc_key ho K ?_)
  refine wpAny_bind (acc_callSpecial ho K (id := "list.__setitem__") (by kernel_rfl) slot_list_setitem.bind (slotA_setitem.call entry_list_setitem ho K (args_list_setitem _ _ _) ?_))
  show wpAny _ _ (Builtin.List.listSubscript? (.ref sl) >>= _) _ _ s
  refine wpAny_bind ?_
  unfold Builtin.List.listSubscript?
  refine wpAny_bind (wpAny_specialOf hTs slice_no_index ?_)
  refine w_pos rfl (wpAny_pure ?_)
  refine wpAny_bind (wpAny_typeOf hTs (w_neg (by decide) ?_))
  refine wpAny_bind (w_eq (listSliceParts_eq _) ?_)
  refine wpAny_bind (wpAny_field hos hds (x := .none) rfl (wpAny_bind (wpAny_listPart (k := none) .none (w_neg (by decide) ?_))))
  refine wpAny_bind (wpAny_field hos hds (x := vl) rfl (wpAny_bind (wpAny_listPart pl ?_)))
  refine wpAny_bind (wpAny_field hos hds (x := .none) rfl (wpAny_bind (wpAny_listPart (k := none) .none (wpAny_pure ?_))))
  have hsame : ¬ Builtin.List.listSameRef (.ref a) (.ref b) = true := fun q => hab (of_decide_eq_true q : a = b).symm
  refine w_neg hsame ?_
  refine wpAny_bind (m := Builtin.List.listAllItems (.ref b) _) ?_
  unfold Builtin.List.listAllItems
  refine wpAny_bind (wpAny_typeOf hb.typeIs (w_pos rfl ?_))
  first | refine listItems_at hob hdb ?_ | refine wpAny_bind (listItems_at hob hdb (wpAny_pure ?_))
  refine wpAny_bind (listItems_at ho rfl ?_)
  refine wpAny_bind (wpAny_of_eq (sliceIndices_raw lo none none vs.toArray.size (fun q => nomatch q)) ?_)
  refine w_pos rfl (wpAny_bind (wpAny_rule (w_neg ?_ ?_)))
  · exact hbig
  · refine wpAny_bind (listUpdate_at ho rfl ?_ hl1 (Nat.le_succ_of_le hl2))
    refine wpAny_bind (wpAny_letGo ?_)
    exact wpAny_pure ⟨_, rfl, wpAny_pure h⟩
end
section
variable {c : Cx} {A : Around} {S : Sto} {a : St c S} {i : Nat} {l ws : List D} {k : Int} {u vl w : Value} {sl : Addr} {lo : Option Int}
theorem sliceA_ok (hu : a.vv u (.ref i)) (eS : S[i]? = some (.acc l k)) (hs : a.s.heap.IsSliceOf sl vl .none .none) (pl : IsPart vl lo) (hl : l.length ≤ sizeLine) {Q : Value → Shared → Prop} (h : ∀ u (b : St c S), To [] a b → b.vv u (.d (.list (sliceL l lo none none))) → Q u b.s) :
    (∃ b id, u = .ref b ∧ ∀ (Q' : Option Value → Shared → Prop), Q' (some (.builtin id)) a.s → wpAny (model pw c.w) A (specialOf u "__getitem__") Q' noE a.s) ∧ wpAny (model pw c.w) A (getItem u (.ref sl)) Q noE a.s := by
  refine a.ac hu eS fun {o dx vs n t t'} eo ed ho hd lv => ?_
  refine ⟨⟨_, _, rfl, fun Q' hq => acc_special (r := some (.builtin "list.__getitem__")) ho a.good.kin (by kernel_rfl) hq⟩, ?_⟩
  refine acc_getSlice ho a.good.kin hs pl .none .none (fun q => nomatch q) (by rw [lv.length]; exact hl) ?_
  rw [slicePick_list]
  exact h _ _ (a.push_to (tk := a.s.toks)) (a.newList (lv.slice _ _ _))
theorem setA_ok (hu : a.vv u (.ref i)) (hw : a.v w (.list ws)) (eS : S[i]? = some (.acc l k)) (hs : a.s.heap.IsSliceOf sl vl .none .none) (pl : IsPart vl lo) (hl : l.length + ws.length ≤ sizeLine) {Q : Unit → Shared → Prop} (h : ∀ b : St c (S.set i (.acc (l.take (stOf lo l.length) ++ ws) k)), To [] a b → Q () b.s) :
    wpAny (model pw c.w) A (setItem u (.ref sl) w) Q noE a.s := by
  refine V.lsts hw fun b us nb ntb jl wv => ?_
  refine a.ac hu eS fun {o dx vs n t t'} eo ed ho hd lv => ?_
  obtain ⟨g, hg, t5⟩ := a.accSet (tk := a.s.toks) (f := setF lo vs.length us) (l' := l.take (stOf lo l.length) ++ ws) eS eo ed ho hd setF_is (by rw [lv.length]; exact (lv.take _).append wv)
  exact acc_setSlice ho a.good.kin jl (fun q => nb (q ▸ a.good.own _ (gad_of eo (.head _)))) hs pl (by rw [lv.length, wv.length]; exact hl) (hg ▸ h g t5)
end
section
variable {f : Fr} {e : En} {S S1 S2 S3 : Sto} {p q t : Pos} {x y : Expr} {z : Fl × Sto} {ss : List Stmt} {i : Nat} {l ws : List D} {k k' : Int} {lo : Option Expr} {d : D} {lo' : Option Int}
theorem e_sliceA (h1 : EV f x e S (.ref i, S1)) (h2 : PV f lo e S1 (.d d, S2)) (ep : partD d = some lo') (eS : S2[i]? = some (.acc l k)) (hl : l.length ≤ sizeLine) : EV f (.Subscript x (.Slice lo none none q) p) e S (.d (.list (sliceL l lo' none none)), S2) := fun env A a0 Q P h =>
  sub_ok (h1 env A a0 _ P fun u b t1 v1 => wpAny_Slice (part_ok h2 (P.to t1) fun u2 b2 t2 v2 => wpAny_pure (wpAny_pure (
    have t3 := b2.push_to (o := { cls := .type "slice", data := .fields #[u2, .none, .none] }) (tk := b2.s.toks)
    sliceA_ok (t3.vv (t2.vv v1)) eS (Heap.IsSliceOf.new ..) (partD_ok ep v2) hl fun y g t4 => h y g (t1.trans (t2.trans (t3.trans t4)))))))
theorem x_setA (hs : ∀ env t, swapsWith x (some (.Subscript y (.Slice lo none none q) t)) p.line env = pure false) (h0 : EV f x e S (.d (.list ws), S1)) (h1 : EV f y e S1 (.ref i, S2)) (h2 : PV f lo e S2 (.d d, S3)) (ep : partD d = some lo') (eS : S3[i]? = some (.acc l k)) (hl : l.length + ws.length ≤ sizeLine) {l' : List D} (el : l.take (stOf lo' l.length) ++ ws = l')
    (nx : EX f ss e (S3.set i (.acc l' k)) z) : EX f (.Assign [.Subscript y (.Slice lo none none q) t] x p :: ss) e S z := x_cons (fun env A a Q P h =>
  wpAny_Assign_Subscript (h0 env A a _ P fun w b0 t0 v0 => h1 env A b0 _ (P.to t0) fun u b1 t1 v1 => wpAny_Slice (part_ok h2 ((P.to t0).to t1) fun u2 b2 t2 v2 => wpAny_pure (wpAny_pure (
    have t3 := b2.push_to (o := { cls := .type "slice", data := .fields #[u2, .none, .none] }) (tk := b2.s.toks)
    have t4 := t0.trans (t1.trans (t2.trans t3))
    setA_ok ((t2.trans t3).vv v1) ((t1.trans (t2.trans t3)).v v0) eS (Heap.IsSliceOf.new ..) (partD_ok ep v2) hl (el ▸ fun g t5 => h .next g (own_nx P (t4.trans t5)) ⟨rfl, P.fm.to (t4.trans t5)⟩))))) (hs env t)) nx
end
open Builtin Builtin.ObjectAttr
noncomputable section
structure SlotB (ow id n : String) : Prop where
  split : splitId id = some (ow, n)
  kind : builtinKind id = some .slot
  plain : plainId id = true
  sub : ∀ c : Cx, peek (zK c.w.params) ⟨pw, c.w.params⟩ (isSubtype (.ref 94) (.type ow)) = some true
section
variable {c : Cx} {A : Around} {E : Value → Shared → Prop} {s : Shared} {a dx : Addr} {vs : List Value} {n : Nat}
theorem SlotB.check {ow id nm : String} (x : SlotB ow id nm) (ho : s.heap.get? a = some (accObj dx vs n)) (K : (zK c.w.params).In s.heap) {rest : List Value} {kw : List (Str × Value)} (ha : argsOk id ⟨.ref a :: rest, kw⟩) {Q : Unit → Shared → Prop} (h : Q () s) :
    wpAny (model pw c.w) A (checkBuiltinCall id ⟨.ref a :: rest, kw⟩) Q E s := by
  have h' := x.kind
  simp only [checkBuiltinCall, h', x.split]
  refine wpAny_bind (wpAny_bind (acc_type ho (Looks.here (Looks.of_peek K (x.sub c)) (w_neg Bool.false_ne_true ?_))))
  cases hsig : Manifest.signature? id with
  | none => exact wpAny_pure h
  | some sig =>
    simp only [argsOk, hsig] at ha
    exact w_eq (ha : Bind.checkArgs id sig ⟨.ref a :: rest, kw⟩ = pure ()) (wpAny_pure h)
theorem SlotB.call {ow id nm : String} (x : SlotB ow id nm) {b : Builtin} (hb : entryFor table id = some b) (ho : s.heap.get? a = some (accObj dx vs n)) (K : (zK c.w.params).In s.heap) {rest : List Value} (ha : argsOk id ⟨.ref a :: rest, []⟩) {Q : Value → Shared → Prop}
    (hc : wpAny (model pw c.w) A.in1 (b ⟨.ref a :: rest, []⟩) (fun fin s' => ∃ v, fin = .done (.ret v) ∧ Q v s') E s) : wpAny (model pw c.w) A (PySem.call (.builtin id) (.ref a :: rest)) Q E s := by
  refine wpAny_call (codeAny_call_builtin x.plain hb (x.check ho K ha (wpAny_mono hc (fun fin s' h' => ?_) fun _ _ h' => h')))
  obtain ⟨v, rfl, hv⟩ := h'; exact hv
end
theorem slotB_setattr : SlotB "object" "object.__setattr__" "__setattr__" := ⟨by decide +kernel, by decide +kernel, by decide +kernel, fun c => by kernel_rfl⟩
theorem slotB_getattribute : SlotB "list" "list.__getattribute__" "__getattribute__" := ⟨by decide +kernel, by decide +kernel, by decide +kernel, fun c => by kernel_rfl⟩
theorem acc_mro (c : Cx) : peek (zK c.w.params) ⟨pw, c.w.params⟩ (mroOf (.ref 94)) = some [.ref 94, .type "list", .type "object"] := by kernel_rfl
theorem acc_passes (self : Value) : refuseLoop self (Str.ofString "__setattr__") [.ref 94, .type "list", .type "object"] = pure () := by
  rw [refuseLoop_ref]; kernel_rfl
theorem find_ini (c : Cx) : findIn (zK c.w.params) (.ref 94) iniS = some none := by kernel_rfl
theorem find_setattr (c : Cx) : findIn (zK c.w.params) (.ref 94) (Str.ofString "__setattr__") = some (some (.builtin "object.__setattr__")) := by kernel_rfl
section
variable {c : Cx} {A : Around} {E : Value → Shared → Prop} {h : Heap} {g : Array GenState} {d : Drawn} {t : Nat} {os : OsState} {a dx : Addr} {vs : List Value} {n : Nat} {v : Value} {mm : Str → Option Value}
theorem setattr_body {tk : Tok} {Q : PySem.Fin → Shared → Prop} (ho : h.get? a = some (accObj dx vs n)) (K : (zK c.w.params).In h) (hmm : ∀ y, y ≠ iniS → mm y = none) (hns : h.Ns1 dx mm)
    (hQ : ∀ h' tk', h'.Ns1 dx (fun x => if x = iniS then some v else none) → Heap.SameBut dx h h' → Q (.done (.ret .none)) ⟨h', g, d, tk', os⟩) :
    wpAny (model pw c.w) A (Builtin.«object.__setattr__» ⟨[.ref a, .str iniS tk, v], []⟩) Q E ⟨h, g, d, t, os⟩ := by
  have hm : Looks (model pw c.w) h (mroOf (.ref 94)) [.ref 94, .type "list", .type "object"] := Looks.of_peek K (acc_mro c)
  have hc : (accObj dx vs n).cls = .ref 94 := rfl
  have hl : Looks (model pw c.w) h (typeLookup (.ref 94) iniS) none := looks_findIn K (find_ini c)
  have hpass := acc_passes (.ref a)
  unfold Builtin.«object.__setattr__»
  repeat (first | rw [refuse_eq] | rw [hpass] | (with_reducible refine wpAny_loadPart_at ho ?_; rw [hc]) | with_reducible refine Looks.at hm ?_ | with_reducible refine Looks.at hl ?_ | wp_step)
  have h94 : h.get? 94 = some (o2x94 c.w.params) := K 94 _ (by kernel_rfl)
  refine wpAny_load (s := ⟨h, g, d, t, os⟩) h94 (wpAny_pure (w_neg (by decide) (wpAny_pure ?_)))
  show wpAny _ _ (storeInDict dx (.str iniS tk) iniS v) _ _ _
  unfold storeInDict newKeyGuard
  refine wpAny_bind (wpAny_pure (wpAny_bind (wpAny_nsSet1 hns fun h' hn' hs => ?_)))
  have hn2 : h'.Ns1 dx (fun x => if x = iniS then some v else none) := by
    have : (fun y => if y = iniS then some v else mm y) = fun x => if x = iniS then some v else none := funext fun y => by
      by_cases hy : y = iniS
      · rw [if_pos hy, if_pos hy]
      · rw [if_neg hy, if_neg hy, hmm y hy]
    rw [← this]; exact hn'
  obtain ⟨oD, esD, epD, hoD, hdD, hcD⟩ := hn2.count (ns := [iniS]) (fun y hy => by
    by_cases q : y = iniS
    · rw [q]; exact .head _
    · rw [if_neg q] at hy; exact absurd rfl hy)
  refine wpAny_bind (wpAny_lookBehind hoD (by rw [hdD]; exact pastItsLine_dict (Nat.le_trans hcD (by decide))) ?_)
  wp_walk
  exact hQ h' _ hn2 hs
theorem getattr_body {k : Int} {tok tk : Tok} {Q : PySem.Fin → Shared → Prop} (ho : h.get? a = some (accObj dx vs n)) (K : (zK c.w.params).In h) (hns : h.Ns1 dx (fun x => if x = iniS then some (.int k tok) else none))
    (hQ : Q (.done (.ret (.int k tok))) ⟨h, g, d, t, os⟩) : wpAny (model pw c.w) A (Builtin.«object.__getattribute__» ⟨[.ref a, .str iniS tk], []⟩) Q E ⟨h, g, d, t, os⟩ := by
  have hc : (accObj dx vs n).cls = .ref 94 := rfl
  have hl : Looks (model pw c.w) h (typeLookup (.ref 94) iniS) none := looks_findIn K (find_ini c)
  have hname : (["__module__", "__name__", "__qualname__", "__doc__", "__annotations__"] : List Str).contains iniS = false := by decide +kernel
  unfold Builtin.«object.__getattribute__»
  repeat (any_goals (first | assumption | (with_reducible refine wpAny_loadPart_at ho ?_; rw [hc]) | with_reducible refine Looks.at hl ?_ | wp_step))
  have h94 : h.get? 94 = some (o2x94 c.w.params) := K 94 _ (by kernel_rfl)
  refine wpAny_load (s := ⟨h, g, d, t, os⟩) h94 (wpAny_pure (w_neg (by decide) (wpAny_pure ?_)))
  show wpAny _ _ (nsGet dx iniS) _ _ _
  refine wpAny_nsGet hns.ns ?_
  rw [if_pos rfl]
  exact wpAny_bind (wpAny_rule (wpAny_pure (wpAny_pure hQ)))
end
end
section
variable {c : Cx} {A : Around} {E : Value → Shared → Prop} {s : Shared} {a dx : Addr} {vs : List Value} {n : Nat} {v : Value} {mm : Str → Option Value}
theorem acc_getAttr {k : Int} {tok : Tok} {Q : Value → Shared → Prop} (ho : s.heap.get? a = some (accObj dx vs n)) (K : (zK c.w.params).In s.heap) (hns : s.heap.Ns1 dx (fun x => if x = iniS then some (.int k tok) else none))
    (hQ : Q (.int k tok) { s with toks := s.toks + 1 }) : wpAny (model pw c.w) A (getAttr (.ref a) iniS true) Q E s := by
  unfold getAttr getAttrBy
  refine wpAny_bind (wpAny_mkText (wpAny_holding (wpAny_bind (acc_type (s := { s with toks := s.toks + 1 }) ho (wpAny_bind (Looks.here (looks_findIn K (r := some (.builtin "list.__getattribute__")) (by kernel_rfl)) ?_))))))
  refine w_neg (by decide) ?_
  unfold getAttrByItsOwn hookBefore callGetattribute boundAndCalled
  refine wpAny_bind (w_pos rfl (Looks.here (looks_findIn K (r := none) (by kernel_rfl)) ?_))
  refine wpAny_bind (wpAny_attempt (wpAny_holding (w_neg Bool.false_ne_true ?_)))
  refine wpAny_bind (wpAny_of_eq (F.slot_list_getattribute.bind (.ref a)) ?_)
  refine wpAny_mono (Q := fun v s' => v = .int k tok ∧ s' = { s with toks := s.toks + 1 }) (E := noE) (slotB_getattribute.call (s := { s with toks := s.toks + 1 }) am_entry_list_getattribute ho K (F.args_list_getattribute_2 _ _) ?_) (fun v s' hv => ?_) fun _ _ x => x.elim
  · exact getattr_body ho K hns ⟨_, rfl, rfl, rfl⟩
  · obtain ⟨rfl, rfl⟩ := hv
    exact wpAny_pure hQ
theorem acc_setAttr {Q : Unit → Shared → Prop} (ho : s.heap.get? a = some (accObj dx vs n)) (K : (zK c.w.params).In s.heap) (hmm : ∀ y, y ≠ iniS → mm y = none) (hns : s.heap.Ns1 dx mm)
    (hQ : ∀ h' tk', h'.Ns1 dx (fun x => if x = iniS then some v else none) → Heap.SameBut dx s.heap h' → Q () { s with heap := h', toks := tk' }) : wpAny (model pw c.w) A (setAttr (.ref a) iniS v) Q E s := by
  unfold setAttr
  refine wpAny_bind (wpAny_mkText (wpAny_bind (acc_callSpecial (s := { s with toks := s.toks + 1 }) ho K (find_setattr c) PySem.F.slot_list_setattr.bind ?_)))
  exact slotB_setattr.call (s := { s with toks := s.toks + 1 }) F.entry_object_sa ho K (F.store_object.args _ _ _) (setattr_body ho K hmm hns fun h' tk' h1 h2 => ⟨_, rfl, wpAny_pure (hQ h' tk' h1 h2)⟩)
end
section
variable {c : Cx} {S : Sto} {i : Nat} {l : List D} {k k' : Int}
theorem St.accAttr (a : St c S) {tk : Nat} {h' : Heap} {tok : Tok} {o : Ho} {dx : Addr} {vs : List Value} {n : Nat} (em : S[i]? = some (.acc l k)) (eo : a.G[i]? = some o) (edx : o.dx = some dx) (ho : a.s.heap.get? o.a = some (accObj dx vs n)) (hv : a.vs vs l)
    (hn : h'.Ns1 dx (fun x => if x = iniS then some (.int k' tok) else none)) (hs : Heap.SameBut dx a.s.heap h') : ∃ b : St c (S.set i (.acc l k')), b.s = { a.s with heap := h', toks := tk } ∧ To [] a b := by
  obtain ⟨ob, es, ep, e1, e2, e3, e4, e5⟩ := hn
  have od : dx ∈ o.all := by unfold Ho.all; rw [edx]; exact .tail _ (.head _)
  exact ⟨a.write i (.acc l k') o h' tk eo (fun b ob q e => (hs.2 b fun z => q (by rw [z]; exact od)).trans e) (fun z q => by
    by_cases w : z = dx
    · rw [w]; exact ⟨_, e1⟩
    · obtain ⟨ob, e⟩ := a.good.live z (a.good.own z (gad_of eo q))
      exact ⟨ob, (hs.2 z w).trans e⟩) fun vk => ⟨dx, vs, n, ⟨ob, es, ep, tok, e2, e3, e4, e5⟩, (), edx, (hs.2 _ (dx_ne a.good.nd eo edx).symm).trans ho, e1, hv.imp vk⟩, rfl, a.write_to em rfl⟩
end
section
variable {f : Fr} {e : En} {S S1 S2 : Sto} {p q : Pos} {x y : Expr} {z : Fl × Sto} {ss : List Stmt} {i : Nat} {l : List D} {k k' : Int}
theorem e_ini {n : Str} (h1 : EV f (.Name n q) e S (.ref i, S1)) (eS : S1[i]? = some (.acc l k)) : EV f (.Attribute (.Name n q) iniS p) e S (.d (.int k), S1) := fun env A a Q P h =>
  Attribute_Name_ (h1 env A a _ P fun u b t1 v1 => b.ac v1 eS fun {o dx vs n t t'} eo ed ho hd lv => accDict_ns1 hd fun tok hns => acc_getAttr ho b.good.kin hns (h _ (b.tok _) (t1.trans b.tok_to) (.int _ _)))
theorem x_setK (hs : ∀ env, swapsWith x (some (.Attribute y iniS q)) p.line env = pure false) (h0 : EV f x e S (.d (.int k'), S1)) (h1 : EV f y e S1 (.ref i, S2)) (eS : S2[i]? = some (.acc l k)) (nx : EX f ss e (S2.set i (.acc l k')) z) : EX f (.Assign [.Attribute y iniS q] x p :: ss) e S z := x_cons (fun env A a Q P h =>
  plainObj_wpAny_Assign_Attribute (h0 env A a _ P fun w b0 t0 v0 => h1 env A b0 _ (P.to t0) fun u b1 t1 v1 => by
    refine V.ints (t1.v v0) fun t => ?_
    refine b1.ac v1 eS fun {o dx vs n t t'} eo ed ho hd lv => accDict_ns1 hd fun tok hns => acc_setAttr ho b1.good.kin (fun y hy => if_neg hy) hns fun h' tk' hn' hs' => ?_
    obtain ⟨g, hg, t5⟩ := b1.accAttr (tk := tk') (k' := k') eS eo ed ho lv hn' hs'
    have := h .next g (own_nx P (t0.trans (t1.trans t5))) ⟨rfl, P.fm.to (t0.trans (t1.trans t5))⟩
    rw [hg] at this; exact this) (hs env)) nx
end
section
variable {f : Fr} {e : En} {S S1 : Sto} {p q t : Pos} {x : Expr} {kk : Nat} {m : List D}
theorem t_notNone (h1 : EV f x e S (.d (.list m), S1)) : TV f (.Compare x [.Is] [.Constant .none kk q] t) e S (false, S1) := fun env A a Q P h =>
  wpAny_isTrue_Compare1 (h1 env A a _ P fun u b t1 v1 => by
    refine V.lsts v1 fun r vs _ _ _ _ => ?_
    rw [arm_eval_Constant]
    exact wpAny_pure (wpAny_is_plain (b := .none) rfl (wpAny_truthy_bool (h b t1)))) rfl
end
abbrev startS : Str := Str.ofString "startval"
section
variable {c : Cx} {S : Sto} {i k0 : Nat} {l m : List D} {k j : Int}
theorem popFrom_ex (eS : S[i]? = some (.acc l k)) (hl : l.length ≤ sizeLine) : ∃ e, EX ⟨c, k0, ksOf (fScope (cls 2 2))⟩ (fBody (cls 2 2)) (envL ([selfS, Str.ofString "i"].zip [.ref i, .d (.int j)])) S e ∧ LV S e (.d (.list (sliceL l (some j) none none)), S.set i (.acc (l.take (stOf (some j) l.length)) k)) :=
  ⟨_, x_asg (by kernel_rfl) (fun _ => rfl) (e_sliceA (e_name (by kernel_rfl) rfl) (o_some (e_name (by kernel_rfl) rfl)) rfl eS hl) (x_setA (fun _ _ => rfl) (e_list v_nil rfl (Nat.zero_le _)) (e_name (by kernel_rfl) rfl) (o_some (e_name (by kernel_rfl) rfl)) rfl eS hl (List.append_nil _) (x_return (e_name (by kernel_rfl) rfl))), lv_data List.length_set⟩
theorem me_pop_from (eS : S[i]? = some (.acc l k)) (hl : l.length ≤ sizeLine) : ME c (k0 + 1) (Str.ofString "pop_from") (.ref i) [.d (.int j)] S (.d (.list (sliceL l (some j) none none)), S.set i (.acc (l.take (stOf (some j) l.length)) k)) := by
  obtain ⟨z, h, l⟩ := popFrom_ex (c := c) (k0 := k0) (j := j) eS hl
  exact me_f (f := 46) (o := o2x46 c.w.params) (by kernel_rfl) (by kernel_rfl) (by decide +kernel) (by kernel_rfl) rfl eS (user_ok (m_pop_from c) (dvs := []) (fun _ => .nil) (EX.c h) rfl l)
theorem me_pop_from0 (eS : S[i]? = some (.acc l k)) (hl : l.length ≤ sizeLine) : ME c (k0 + 1) (Str.ofString "pop_from") (.ref i) [] S (.d (.list (sliceL l (some 0) none none)), S.set i (.acc (l.take (stOf (some 0) l.length)) k)) := by
  obtain ⟨z, h, l⟩ := popFrom_ex (c := c) (k0 := k0) (j := 0) eS hl
  exact me_f (f := 46) (o := o2x46 c.w.params) (by kernel_rfl) (by kernel_rfl) (by decide +kernel) (by kernel_rfl) rfl eS (user_ok (m_pop_from0 c) (dvs := [.d (.int 0)]) (fun _ => .cons (.int _ _) .nil) (EX.c h) rfl l)
theorem reset_tail {e : En} (hs : e selfS = some (.ref i)) (hv : e startS = some (.d (.list m))) (eS : S[i]? = some (.acc l k)) (hl : l.length + m.length ≤ sizeLine) : EX ⟨c, k0, ksOf (fScope (cls 2 6))⟩ ((fBody (cls 2 6)).drop 1) e S (.next e, (S.set i (.acc m k)).set i (.acc m 0)) :=
  x_setA (fun _ _ => rfl) (e_name (by kernel_rfl) hv) (e_name (by kernel_rfl) hs) (o_none) rfl eS hl rfl (x_setK (fun _ => rfl) (e_const rfl) (e_name (by kernel_rfl) hs) (List.getElem?_set_self (List.getElem?_eq_some_iff.mp eS).1) x_nil)
theorem me_reset (eS : S[i]? = some (.acc l k)) (hl : l.length + m.length ≤ sizeLine) : ME c (k0 + 1) (Str.ofString "reset") (.ref i) [.d (.list m)] S (.d .none, S.set i (.acc m 0)) :=
  me_f (f := 76) (o := o2x76 c.w.params) (by kernel_rfl) (by kernel_rfl) (by decide +kernel) (by kernel_rfl) rfl eS (user_ok (m_reset c) (dvs := []) (fun _ => .nil) (EX.c (x_skip (t_notNone (e_name (by kernel_rfl) rfl)) (reset_tail rfl rfl eS hl))) rfl (by rw [List.set_set]; exact lv_none List.length_set))
theorem me_reset0 (eS : S[i]? = some (.acc l k)) (hl : l.length ≤ sizeLine) : ME c (k0 + 1) (Str.ofString "reset") (.ref i) [] S (.d .none, S.set i (.acc [] 0)) :=
  me_f (f := 76) (o := o2x76 c.w.params) (by kernel_rfl) (by kernel_rfl) (by decide +kernel) (by kernel_rfl) rfl eS (user_ok (m_reset0 c) (dvs := [.d .none]) (fun _ => .cons .none .nil) (EX.c (x_if (c := true) (t_cmp (e_name (by kernel_rfl) rfl) (e_const rfl) rfl rfl) (x_asg (by kernel_rfl) (fun _ => rfl) (e_list v_nil rfl (Nat.zero_le _)) x_nil) (reset_tail rfl rfl eS hl))) rfl (by rw [List.set_set]; exact lv_none List.length_set))
end
theorem zK_off (c : Cx) {a : Addr} {o : Obj} (h : (zK c.w.params).lookup a = some o) : a ∉ tabs := by
  have h1 : tabs.all (fun a => ((zK c.w.params).lookup a).isNone) = true := by kernel_rfl
  exact fun m => by
    have := List.all_eq_true.mp h1 a m
    rw [h] at this; cases this
section
variable {c : Cx} {S : Sto}
def St.keepT (a : St c S) (h' : Heap) (gs : Array GenState) (d : Drawn) (tk : Nat) (k : ∀ b o, b ∉ tabs → a.s.heap.get? b = some o → h'.get? b = some o) (old : OldT c.h₀ h') (bare : AllBare gs) : St c S :=
  ⟨a.wl, a.G, { a.s with heap := h', gens := gs, drawn := d, toks := tk }, old, fun b o e => k b o (zK_off c e) (a.good.kin b o e), a.good.new, fun b m => let ⟨o, e⟩ := a.good.live b m; ⟨o, k _ _ (a.good.off m) e⟩,
    All2.iff.mpr ⟨a.good.sat.length, fun i o m e e' => (a.good.sat.at_ e' e).step (fun b q ob => k b ob (a.good.off (a.good.own b (gad_of e q)))) fun v d => V.step (fun b o _ t e => k b o t e) (New.refl _ _)⟩, a.good.own, a.good.nd, bare, a.good.os⟩
theorem St.keepT_to (a : St c S) {h' : Heap} {gs : Array GenState} {d : Drawn} {tk : Nat} {k old bare} : To [] a (a.keepT h' gs d tk k old bare) :=
  ⟨(fun _ m => nomatch m), List.prefix_refl _, New.refl _ _, New.refl _ _, fun z o _ t e => k z o t e, New.refl _ _, fun z m => m⟩
end
theorem OldT.grow {h₀ h h' : Heap} {P : Addr} {vs : Array Value} (K : OldT h₀ h) (m : P ∈ tabs) (hx : ∀ b o, b ≠ P → h.get? b = some o → h'.get? b = some o) (hp : h'.get? P = some { cls := .none, data := .fields vs }) (tr : TriplesOk vs.toList) (ht : isCodeTable h₀ P) : OldT h₀ h' := by
  refine ⟨⟨fun b o e => ?_, fun b o e => ?_⟩, K.base, fun P' m' => ?_⟩
  · by_cases hb : b = P
    · subst hb
      obtain ⟨o0, e0, rfl⟩ := K.base b m
      rw [e0] at e; cases e
      exact .inr (.inl ⟨ht, rfl, #[], vs, rfl, by rw [hp, Array.empty_append]⟩)
    · rcases K.k.old b o e with x | ⟨t, hc, us, more, hv, x⟩ | ⟨rfl, hc, ⟨o', es, n, ho', r⟩, z⟩
      · exact .inl (hx _ _ hb x)
      · exact .inr (.inl ⟨t, hc, us, more, hv, hx _ _ hb x⟩)
      · exact .inr (.inr ⟨rfl, hc, ⟨o', es, n, hx _ _ hb ho', r⟩, fun key => by rw [OldK.staticOf_congr ((hx _ _ hb ho').trans ho'.symm) key]; exact z key⟩)
  · by_cases hb : b = P
    · exact ⟨_, hb ▸ hp⟩
    · obtain ⟨o', e'⟩ := K.k.there b o e
      exact ⟨o', hx _ _ hb e'⟩
  · by_cases hb : P' = P
    · exact ⟨_, hb ▸ hp, tr⟩
    · obtain ⟨ps', e', t'⟩ := K.tab P' m'
      exact ⟨ps', hx _ _ hb e', t'⟩
structure CodeAt (c : Cx) (cc P : Addr) (oc : Obj) (vs : Array Value) (file : Str) (tf : Tok) (flags : Int) (tg : Tok) (inF : Bool) (text : Int) (tt : Tok) : Prop where
  mem : P ∈ tabs
  obj : (zK c.w.params).lookup cc = some oc
  cls : oc.cls = .type "code"
  data : oc.data = .fields vs
  tab : vs[11]? = some (.ref P)
  e11 : vs.getD 11 .none = .ref P
  e18 : vs.getD 18 .none = .str file tf
  e7 : vs.getD 7 .none = .int flags tg
  e9 : vs.getD 9 .none = .bool inF
  e10 : vs.getD 10 .none = .int text tt
theorem codeAt_found {M : Model} {A : Around} {E : Value → Shared → Prop} {s : Shared} {env : Env} {pos : Pos} {make : CodeContext → Sem Value} {Q : Value → Shared → Prop} {cc P : Addr} {oc : Obj} {vs ps : Array Value} {cv : Value} (henv : env.code = .ref cc) (ho : s.heap.get? cc = some oc) (hd : oc.data = .fields vs) (h11 : vs.getD 11 .none = .ref P) (hp : s.heap.get? P = some { cls := .none, data := .fields ps }) (hnf : codeAmong pos ps.toList = some cv) (hq : Q cv s) : wpAny M A (codeAt env pos make) Q E s := by
  unfold codeAt
  rw [henv]
  refine w_neg Bool.false_ne_true (wpAny_bind (wpAny_fieldsOf ho hd ?_))
  rw [h11]
  refine wpAny_bind (wpAny_fieldsOf hp rfl ?_)
  rw [hnf]
  exact wpAny_pure hq
theorem genCode {c : Cx} {S : Sto} {A : Around} {env : Env} {pos : Pos} {qual : Str} {scope : Scope} (a : St c S) {Q : Value → Shared → Prop} {cc P : Addr} {oc : Obj} {vs : Array Value} {file : Str} {tf tg tt : Tok} {flags text : Int} {inF : Bool} (henv : env.code = .ref cc) (C : CodeAt c cc P oc vs file tf flags tg inF text tt)
    (hq : ∀ code h' tk, (∀ b o, b ∉ tabs → a.s.heap.get? b = some o → h'.get? b = some o) → OldT c.h₀ h' → Q code { a.s with heap := h', toks := tk }) : wpAny (model pw c.w) A (genexprCode env pos qual scope) Q noE a.s := by
  obtain ⟨ps, hp, tr⟩ := a.good.old.tab P C.mem
  have ho := a.good.kin _ _ C.obj
  cases hnf : codeAmong pos ps.toList with
  | some cv =>
    exact codeAt_found henv ho C.data C.e11 hp hnf (hq cv a.s.heap a.s.toks (fun _ _ _ e => e) a.good.old)
  | none =>
    refine wpAny_genexprCodeX henv ⟨oc, vs, file, tf, flags, tg, inF, text, tt, _, ho, C.data, C.e11, C.e18, C.e7, C.e9, C.e10, hp, rfl, tr, fun q => zK_off c C.obj (q ▸ C.mem)⟩ ⟨⟨oc, vs, ho, C.cls, C.data, C.tab⟩, hp⟩ hnf fun c' h' tk hx _ _ hcode _ htab' _ => ?_
    refine hq _ h' tk (fun b o nb e => hx b o (fun q => nb (q ▸ C.mem)) e) (a.good.old.grow C.mem hx htab'.2 ?_ ⟨cc, oc, vs, c.K _ _ C.obj, C.cls, C.data, C.tab⟩)
    have hl : (ps ++ #[rawInt pos.line, rawInt pos.col, Value.ref c']).toList = ps.toList ++ [rawInt pos.line, rawInt pos.col, .ref c'] := Array.toList_append
    rw [hl]; exact TriplesOk_snoc _ _ _ _ tr
def pD (p : Str × Str) : D := .tuple [.str p.1, .str p.2]
def psD (ps : List (Str × Str)) : List D := ps.map pD
inductive Pc (wl : List Addr) (h : Heap) (vs : List Value) (ps : List (Str × Str)) (j : Nat) : Addr × Array Value → Prop
  | out : vs.length ≤ j → Pc wl h vs ps j (0, #[])
  | at_ {T : Addr} {x y : Str} {t u : Tok} : vs[j]? = some (.ref T) → h.IsTuple T #[.str x t, .str y u] → T ∉ tabs → ps[j]? = some (x, y) → Pc wl h vs ps j (T, #[.str x t, .str y u])
theorem pcs_at {wl : List Addr} {h : Heap} {vs : List Value} {ps : List (Str × Str)} (lv : Vs wl h vs (psD ps)) (j : Nat) : ∃ p, Pc wl h vs ps j p := by
  cases e : vs[j]? with
  | none => exact ⟨_, .out (List.getElem?_eq_none_iff.mp e)⟩
  | some v =>
    obtain ⟨d, e1, hv⟩ := lv.get' e
    unfold psD at e1
    rw [List.getElem?_map] at e1
    obtain ⟨p, e2, rfl⟩ := ms e1
    obtain ⟨T, us, rfl, _, nt, it, lu⟩ := V.tup_ hv
    obtain ⟨u1, us, rfl, h1, lu⟩ := lu.cons_
    obtain ⟨u2, rfl, h2⟩ := lu.one_
    obtain ⟨t1, rfl⟩ := h1.str_
    obtain ⟨t2, rfl⟩ := h2.str_
    exact ⟨_, .at_ e it nt e2⟩
theorem Pc.ok {wl : List Addr} {h : Heap} {vs : List Value} {ps : List (Str × Str)} {j : Nat} {p : Addr × Array Value} (x : Pc wl h vs ps j p) (hj : j < vs.length) {P : Addr × Array Value → Prop} (k : ∀ {T : Addr} {x y : Str} {t u : Tok}, vs[j]? = some (.ref T) → h.IsTuple T #[.str x t, .str y u] → T ∉ tabs → ps[j]? = some (x, y) → P (T, #[.str x t, .str y u])) : P p := by
  cases x with
  | out q => exact absurd hj (Nat.not_lt.mpr q)
  | at_ a b d e => exact k a b d e
theorem walksU_seq {prog : Program} {w : World} {A : Around} (hh : A.handled = none) (I ax : Addr) (hne : ax ≠ I) (items : Array Value) (Ts : Nat → Addr) (vals : Nat → Array Value)
    (hit : ∀ j, j < items.size → items[j]? = some (.ref (Ts j))) (hTI : ∀ j, j < items.size → Ts j ≠ I) :
    WalksU prog w A I (I :: ax :: (List.range items.size).map Ts) [I] items.size (fun j v => v = vals j)
      (fun j h => h.IsListIter I ax j ∧ IsSeq h ax items ∧ ∀ k, k < items.size → h.IsTuple (Ts k) (vals k))
      (fun j T h => (j < items.size ∧ T = Ts j) ∧ h.IsListIter I ax (j + 1) ∧ IsSeq h ax items ∧ ∀ k, k < items.size → h.IsTuple (Ts k) (vals k)) where
  sub := fun b hb => List.mem_singleton.mp hb ▸ .head _
  frame := fun _ _ _ st hk => ⟨st.1.at fun o e => hk I (.head _) o e, st.2.1.at fun o e => hk ax (.tail _ (.head _)) o e,
    fun k hk' => (st.2.2 k hk').at fun o e => hk (Ts k) (.tail _ (.tail _ (List.mem_map.mpr ⟨k, List.mem_range.mpr hk', rfl⟩))) o e⟩
  item := fun i s Q E hi st hQ => by
    refine seq_next_item st.1 st.2.1 (x := .ref (Ts i)) (hit i hi) fun h' hit' hs' => ?_
    have tup : ∀ k, k < items.size → h'.IsTuple (Ts k) (vals k) := fun k hk' => (st.2.2 k hk').extBut hs'.extBut (hTI k hk')
    exact hQ (Ts i) (vals i) h' s.toks rfl (tup i hi) ⟨⟨hi, rfl⟩, hit', st.2.1.at fun o e => hs'.extBut _ o hne e, tup⟩ fun b o hb e => hs'.extBut b o (fun h => hb (h ▸ .head _)) e
  go := fun _ _ _ _ _ s Q _ hm hQ => wpAny_letOwnedTupleGo_listiter hm.2.1 (hQ s.heap hm.2 fun _ _ _ e => e)
  apart := fun j T _ hm hmem => hTI j hm.1.1 (hm.1.2 ▸ List.mem_singleton.mp hmem)
  done := fun s Q E st hQ => seq_next_end hh st.1 st.2.1 (Array.getElem?_eq_none (Nat.le_refl _)) fun h' he' => hQ h' s.toks fun b o hb e => he' b o (fun h => hb (h ▸ .head _)) e
  self := fun _ _ _ _ st hQ => wpAny_pyIter_listiter st.1 hQ
theorem passing_all (n : Nat) : passing (fun _ => true) n 0 = List.range n := by
  unfold passing
  rw [List.drop_zero]
  exact List.filter_eq_self.mpr fun _ _ => rfl
theorem noFree_closure {scope : Scope} {env : Env} (h : scope.names.all (fun p => p.2 != .free) = true) : closureFor scope env = pure [] := by
  have ne : ∀ p ∈ scope.names, p.2 ≠ .free := fun p m q => by
    have := List.all_eq_true.mp h p m
    rw [q] at this; cases this
  rw [closureFor_eq fun p m hp => (ne p m hp).elim]
  have : scope.names.filter (fun p => p.2 == .free) = [] := List.filter_eq_nil_iff.mpr fun p m q => ne p m (eq_of_beq q)
  unfold freeL
  rw [this]; rfl
structure GenSc (scope : Scope) (xa xb : Str) : Prop where
  co : scope.isCoroutine = false
  free : scope.names.all (fun p => p.2 != .free) = true
  cell : ∀ y ∈ scope.names, y.2 ≠ .cell
  zero : scope.names.lookup (".0" : Str) = some NameKind.local
  la : scope.names.lookup xa = some .local
  lb : scope.names.lookup xb = some .local
  ab : xa ≠ xb
  kind : scope.kind = .function
structure GenOn {c : Cx} {S : Sto} (A : Around) (a b : St c S) (n : Nat) (F : Nat → Value → Prop) (I : Addr) (fp wr : List Addr) (g : Nat) (P : Nat → Value → Prop) (T : Nat → Shared → Prop) : Prop where
  to : To [] a b
  walk : WalksS pw c.w A.in4 I fp wr (GenOnlyQ g) n P T
  st : T 0 b.s
  lt : ∀ x ∈ fp, x < b.s.heap.objs.size
  mem : I ∈ fp
  ty : ∀ i s, T i s → s.TypeIs (.ref I) "generator"
  is : ∀ i v, P i v → F i v
  end_ : ∀ s2, Moved wr (GenOnlyQ g) b.s s2 → ∃ d : St c S, d.s = s2 ∧ To [] a d
section
variable {f : Fr} {env : Env} {A : Around} {e : En} {S : Sto} {a : St f.c S} {sx xa xb : Str} {i : Nat} {k : Int} {ps : List (Str × Str)}
theorem gen_end {b : St f.c S} {wr : List Addr} {g : Nat} (kk : ∀ z o, z ∉ tabs → a.s.heap.get? z = some o → b.s.heap.get? z = some o) (hw : ∀ z ∈ wr, a.s.heap.get? z = none) (s2 : Shared) (m : Moved wr (GenOnlyQ g) b.s s2) : ∃ d : St f.c S, d.s = s2 ∧ To [] a d := by
  have no : ∀ {z o}, a.s.heap.get? z = some o → z ∉ wr := fun e q => no_some e (hw _ q)
  have k2 : ∀ z o, z ∉ tabs → a.s.heap.get? z = some o → s2.heap.get? z = some o := fun z o n e => m.heap z o (no e) (kk z o n e)
  have h0 : ∀ z o, f.c.h₀.get? z ≠ none → b.s.heap.get? z = some o → s2.heap.get? z = some o := fun z o hb => m.heap z o fun q => by
    cases hc : f.c.h₀.get? z with
    | none => exact hb hc
    | some o0 => obtain ⟨o', e'⟩ := a.good.old.there z o0 hc; exact no e' q
  have old := oldK_step b.good.old h0
  have bare := AllBare.moved b.good.bare m.gens
  have ho := m.os.trans (b.good.os.trans a.good.os.symm)
  refine ⟨a.keepT s2.heap s2.gens s2.drawn s2.toks k2 old bare, ?_, a.keepT_to⟩
  show Shared.mk s2.heap s2.gens s2.drawn s2.toks a.s.os = s2
  rw [← ho]
set_option maxHeartbeats 1000000 in
theorem gen_ok (P : Pre f env A a e) (kv : isVa f.ks sx = true) (hs : e sx = some (.ref i)) (eS : S[i]? = some (.acc (psD ps) k)) {elt : Expr} {pa pb pt pq pos : Pos} {kt : Nat} {scope : Scope} (sc : GenSc scope xa xb) {F : Nat → Value → Prop} {Q : Value → Shared → Prop}
    {cc P0 : Addr} {oc : Obj} {us : Array Value} {file : Str} {tf tg tt : Tok} {flags text : Int} {inF : Bool} (henv : env.code = .ref cc) (C : CodeAt f.c cc P0 oc us file tf flags tg inF text tt)
    (helt : ∀ (A' : Around) (E' : Value → Shared → Prop) (j : Nat) (x y : Str) (t u : Tok) (s₂ : Shared) (m₂ : Str → Option Value) (cenv : Env), A'.handled = none → ps[j]? = some (x, y) → cenv.scope = scope → cenv.globals = 3 → cenv.builtins = 0 → s₂.heap.Ns cenv.locals m₂ → m₂ xa = some (.str x t) → m₂ xb = some (.str y u) → (zK f.c.w.params).In s₂.heap → wpAny (model pw f.c.w) A' (eval elt cenv) (fun y s₃ => F j y ∧ Keeps s₂ s₃) E' s₂)
    (hQ : ∀ I b fp wr g P T, GenOn A a b ps.length F I fp wr g P T → Q (.ref I) b.s) :
    wpAny (model pw f.c.w) A (eval (.GeneratorExp elt [⟨.Tuple [.Name xa pa, .Name xb pb] kt pt, .Name sx pq, [], 0⟩] scope pos) env) Q noE a.s := by
  refine wpAny_GeneratorExp_walksQT P.room.hd sc.co (noFree_closure sc.free) sc.cell sc.zero sc.la sc.lb sc.ab sc.kind P.room.limit ?_ fun x => rfl
  refine wpAny_Name (P.fm.load kv hs fun u hu => ?_) (isVa_inv kv).1
  refine a.ac hu eS fun {o dx vs n t t'} eo ed ho hd lv => ?_
  obtain ⟨pf, pat⟩ := Classical.skolem.mp (pcs_at lv)
  refine acc_pyIter ho a.good.kin ?_
  have t1 := a.push_to (tk := a.s.toks) (o := { cls := .type "list_iterator", data := .fields #[.ref o.a, .int 0 0] })
  refine ⟨(a.push _ _).good.lim, genCode (a.push { cls := .type "list_iterator", data := .fields #[.ref o.a, .int 0 0] } a.s.toks) henv C fun code h3 tk3 k3 old3 => ?_⟩
  have I0 : a.s.heap.get? a.s.heap.objs.size = none := Heap.get?_none_of_le (Nat.le_refl _)
  have fr := a.good.fresh (Nat.le_refl a.s.heap.objs.size)
  have keep3 : ∀ b ob, b ∉ tabs → a.s.heap.get? b = some ob → h3.get? b = some ob := fun b ob nb e => k3 b ob nb (Heap.get?_push_of_some _ e)
  have I3 : h3.get? a.s.heap.objs.size = some { cls := .type "list_iterator", data := .fields #[.ref o.a, .int 0 0] } := k3 _ _ fr.2.2.1 (Heap.get?_push_size _ rfl)
  have ho3 := keep3 _ _ (a.good.off (a.good.own _ (gad_of eo (.head _)))) ho
  have lim3 : h3.NoLimit := (a.keepT h3 a.s.gens a.s.drawn tk3 keep3 old3 a.good.bare).good.lim
  have kin3 : (zK f.c.w.params).In h3 := (a.keepT h3 a.s.gens a.s.drawn tk3 keep3 old3 a.good.bare).good.kin
  refine Looks.here (s := { a.s with heap := h3, toks := tk3 }) (by rw [P.fm.globals, P.fm.builtins]; exact Looks.of_peek kin3 (r := 0) (by kernel_rfl)) ?_
  have hsz : vs.toArray.size = ps.length := lv.length.trans (List.length_map _)
  have tup : ∀ j, j < vs.toArray.size → h3.IsTuple (pf j).1 (pf j).2 := fun j hj => (pat j).ok hj (P := fun p => h3.IsTuple p.1 p.2) fun _ it nt _ => it.at fun ob e => keep3 _ _ nt e
  refine ⟨a.s.heap.objs.size, _, _, vs.toArray.size, _, _, _, (fun _ => true), F, rfl, (fun A' hA' => (walksU_seq hA' a.s.heap.objs.size o.a (lt_of_some ho) vs.toArray (fun j => (pf j).1) (fun j => (pf j).2) (fun j hj => (pat j).ok hj (P := fun p => vs.toArray[j]? = some (.ref p.1)) fun q _ _ _ => (List.getElem?_toArray ..).trans q) fun j hj => (pat j).ok hj (P := fun p => p.1 ≠ _) fun {T x y t u} _ it _ _ q => isTuple_no it ((show T = _ from q) ▸ I0)).bound), ?_, ⟨⟨_, I3, rfl, rfl⟩, ⟨_, ho3, n, rfl⟩, tup⟩, ?_, lim3, ?_, ?_, ?_⟩
  · rintro j vals ⟨hj, rfl⟩
    exact (pat j).ok hj (P := fun p => ∃ va vb, p.2 = #[va, vb]) fun _ _ _ _ => ⟨_, _, rfl⟩
  · refine all_c (Heap.lt_size I3) (all_c (Heap.lt_size ho3) fun b hb => ?_)
    obtain ⟨j, hj, rfl⟩ := List.mem_map.mp hb
    obtain ⟨_, e, _⟩ := tup j (List.mem_range.mp hj)
    exact Heap.lt_size e
  · exact fun hm => absurd (Nat.lt_trans (by decide) a.good.big) (Nat.not_lt.mpr (Nat.le_of_eq (List.mem_singleton.mp hm).symm))
  · intro href hhref
    refine ⟨fun A' E' j va vb s₂ m₂ hA' hPt hns hma hmb hk => wpAny_pure ⟨rfl, _, _, rfl, fun _ _ e => e⟩, fun A' E' j va vb s₂ m₂ hA' hPt hpz hns hma hmb hk => ?_⟩
    obtain ⟨hj, e⟩ := hPt
    have kin : (zK f.c.w.params).In s₂.heap := fun b ob e => hk b (List.mem_range.mpr (Heap.lt_size (kin3 b ob e))) (fun q => by
      rw [List.mem_singleton.mp q] at e
      exact no_some (a.good.kin _ _ e) I0) ob (hhref b ob (kin3 b ob e))
    refine (pat j).ok hj (P := fun p => #[va, vb] = p.2 → wpAny (model pw f.c.w) A' (eval elt _) (fun y s₃ => F j y ∧ Keeps s₂ s₃) E' s₂) (fun {T x y t u} _ _ _ hps e => ?_) e
    cases e
    exact helt A' E' j x y t u s₂ m₂ _ hA' hps rfl P.fm.globals rfl hns hma hmb kin
  · intro g h5 tk5 gs hgb hag hsz5 hk5 W hat
    have k5 : ∀ z ob, z ∉ tabs → a.s.heap.get? z = some ob → h5.get? z = some ob := fun z ob nb e => hk5 z ob (keep3 z ob nb e)
    have t5 := a.keepT_to (h' := h5) (gs := a.s.gens.push gs) (d := a.s.drawn) (tk := tk5) (k := k5) (old := oldK_step old3 fun b o _ e => hk5 b o e) (bare := a.good.bare.push hgb)
    rw [passing_all, List.length_range] at W
    rw [hsz] at W hat
    refine hQ g (a.keepT h5 (a.s.gens.push gs) a.s.drawn tk5 k5 _ _) _ _ _ _ _ ⟨t5, W, hat, fun b hb => ?_, .head _, fun i s' st => st.1.typeIs, fun i v hp => ?_, gen_end k5 fun b hb => ?_⟩
    · show b < h5.objs.size
      rw [hsz5]
      rcases List.mem_cons.mp hb with rfl | hb
      · exact Nat.lt_succ_self _
      · rcases List.mem_cons.mp hb with rfl | hb
        · exact Nat.lt_succ_of_lt hag
        · exact Nat.lt_succ_of_lt (Nat.lt_trans (List.mem_range.mp hb) hag)
    · obtain ⟨i', h1, h2⟩ := hp
      obtain ⟨hl, e⟩ := List.getElem?_eq_some_iff.mp h1
      rw [List.getElem_range] at e
      rw [e]; exact h2
    · rcases List.mem_cons.mp hb with rfl | hb
      · exact Heap.get?_none_of_le (Nat.le_of_lt (Heap.lt_size I3))
      · rw [List.mem_singleton.mp hb]; exact I0
end
theorem args_sum2 (a b : Value) : argsOk "sum" ⟨[a, b], []⟩ := by unfold argsOk; kernel_rfl
theorem args_sum1' (a : Value) : argsOk "sum" ⟨[a], []⟩ := by unfold argsOk; kernel_rfl
section
variable {prog : Program} {w : World} {A : Around} {R : Result → Shared → Prop} {I S : Addr} {fp wr : List Addr} {G : Array GenState → Array GenState → Prop} {n i : Nat} {P : Nat → Value → Prop} {T : Nat → Shared → Prop} {ac : Nat → Int} {st : Int} {s : Shared}
abbrev totAt (h : Heap) (S : Addr) (x : Int) : Prop := ∃ t c, h.get? S = some { cls := .type "list", dict := none, data := .seq #[.int x t] c, slots := #[] }
abbrev sumLoop (I S : Addr) (st : Int) : Code := .builtin "sum.loop" ⟨[.ref I, .ref S, rawInt st, rawInt 0], []⟩
def Adds (P : Nat → Value → Prop) (ac : Nat → Int) : Prop := ∀ i v, P i v → ∀ C : Value → Prop, (∀ x t, ac (i + 1) = ac i + x → C (.int x t)) → C v
@[elab_as_elim] theorem Adds.on (hv : Adds P ac) {v : Value} {C : Value → Prop} (hP : P i v) (k : ∀ x t, ac (i + 1) = ac i + x → C (.int x t)) : C v := hv i v hP C k
theorem w_ite {M : Model} {A : Around} {α : Type} {x y : Sem α} {Q : α → Shared → Prop} {E : Value → Shared → Prop} {s : Shared} {p : Prop} [Decidable p] (h : p → wpAny M A x Q E s) (k : ¬ p → wpAny M A y Q E s) : wpAny M A (if p then x else y) Q E s := by
  split
  · exact h ‹_›
  · exact k ‹_›
theorem sum_turn (W : WalksS prog w A.in1 I fp wr G n P T) (hv : Adds P ac) (hS : S ∉ fp) (hi : i ≤ n) (hT : T i s) (ht : totAt s.heap S (ac i))
    (hd : i = n → ∀ s' t', Moved (S :: wr) G s s' → R (.ok (.ret (.int (ac i) t'))) s') (hn : i < n → ∀ s' st', T (i + 1) s' → totAt s'.heap S (ac (i + 1)) → Moved (S :: wr) G s s' → codeAny (model prog w) A (sumLoop I S st') R s') : codeAny (model prog w) A (sumLoop I S st) R s := by
  have sw : S ∉ wr := fun h => hS (W.sub _ h)
  obtain ⟨tA, c, ht⟩ := ht
  have go : i < n → ∀ {s' : Shared} {x : Int} (h2 : Heap) (st' : Int), ac (i + 1) = ac i + x → T (i + 1) s' → Moved wr G s s' → (∀ b o, b ≠ S → s'.heap.get? b = some o → h2.get? b = some o) → (∃ c', h2.get? S = some { cls := .type "list", data := .seq #[.int (ac i + x) s'.toks] c' }) → codeAny (model prog w) A (sumLoop I S st') R { s' with heap := h2, toks := s'.toks + 1 } := fun hi s' x h2 st' hac hT' hm q2 q3 =>
    hn hi _ st' (W.frame _ s' _ _ hT' (Nat.le_succ _) fun b hb o e => q2 b o (fun q => hS (q ▸ hb)) e) (let ⟨c', q3⟩ := q3; ⟨_, c', hac ▸ q3⟩) ⟨fun b o hb e => q2 b o (fun q => hb (q ▸ .head _)) (hm.heap b o (fun q => hb (.tail _ q)) e), hm.gens, hm.drawn, hm.os, Nat.le_succ_of_le hm.toks⟩
  have other : ∀ {h : Heap} {g : Obj → Obj} (b : Addr) (o : Obj), b ≠ S → h.get? b = some o → (h.update S g).get? b = some o := fun b o hb e => (Heap.get?_update_other _ _ fun q => hb q.symm).trans e
  have slow : ∀ {s' : Shared} {x : Int} {t : Tok} {Q : Except Value Value → Shared → Prop} {E : Value → Shared → Prop}, Q (.ok (.int (ac i + x) s'.toks)) { s' with toks := s'.toks + 1 } → wpAny (model prog w) A.in1 ((holding [Value.int x t] (binaryOp .Add (.int (ac i) tA) (.int x t))).attempt) Q E s' := fun h => wpAny_attempt (wpAny_holding (wpAny_add_int h))
  have set : ∀ {s' : Shared} {v : Value} {u : Value} {c' : Nat}, s'.heap.get? S = some { cls := .type "list", data := .seq #[v] c' } → ∃ c', (s'.heap.update S (Obj.mapSeq fun _ => #[u])).get? S = some { cls := .type "list", data := .seq #[u] c' } := fun e => ⟨_, Heap.get?_update_self (Obj.mapSeq fun _ => #[_]) e rfl⟩
  refine codeAny_builtin F.entry_sum_loop ?_
  rw [Around.under_plainId F.plain_sum_loop _]
  refine wpAny_bind (wpAny_seqItems ht rfl ?_)
  show wpAny _ A.in1 (tryCatch (pyNext (.ref I)) _ >>= _) _ _ s
  rcases Nat.lt_or_eq_of_le hi with hi | hi
  · refine wpAny_bind (wpAny_tryCatch (W.item i s _ _ hi hT fun v s' hP hT' hm => ?_))
    refine hv.on (v := v) hP fun x t hac => ?_
    have e0 := hm.heap S _ sw ht
    refine w_ite (fun _ => wpAny_bind (slow ?_)) fun _ => w_ite (fun _ => wpAny_bind (wpAny_mkInt ?_)) fun _ => wpAny_bind (wpAny_rule (wpAny_bind (slow ?_)))
    · exact wpAny_bind (wpAny_updateSeq e0 rfl (wpAny_bind (wpAny_letGo (wpAny_bind (wpAny_updateSeq (set e0).choose_spec rfl (wpAny_pure ⟨plainId_quiet F.plain_sum_loop _, go hi _ 2 hac hT' hm (fun b o hb e => other b o hb (other b o hb e)) (set (s' := { s' with heap := _ }) (set e0).choose_spec)⟩))))))
    · exact wpAny_bind (wpAny_updateSeq e0 rfl (wpAny_pure ⟨plainId_quiet F.plain_sum_loop _, go hi _ 0 hac hT' hm other (set e0)⟩))
    · exact wpAny_bind (wpAny_updateSeq e0 rfl (wpAny_bind (wpAny_letGo (wpAny_bind (wpAny_updateSeq (set e0).choose_spec rfl (wpAny_pure ⟨plainId_quiet F.plain_sum_loop _, go hi _ 2 hac hT' hm (fun b o hb e => other b o hb (other b o hb e)) (set (s' := { s' with heap := _ }) (set e0).choose_spec)⟩))))))
  · subst hi
    exact wpAny_bind (wpAny_tryCatch (W.done s _ _ hT fun s' hm => wpAny_pure (hd rfl s' tA (hm.mono fun b m => .tail _ m))))
theorem sum_all (W : WalksS prog w A.in1 I fp wr G n P T) (hv : Adds P ac) (hS : S ∉ fp) : ∀ (k i : Nat) (s : Shared) (st : Int), i + k = n → T i s → totAt s.heap S (ac i) → (∀ s' t', Moved (S :: wr) G s s' → R (.ok (.ret (.int (ac n) t'))) s') → codeAny (model prog w) A (sumLoop I S st) R s := by
  intro k
  induction k with
  | zero =>
    rintro i s st rfl hT ht hR
    exact sum_turn W hv hS (Nat.le_refl _) hT ht (fun _ => hR) fun h => absurd h (Nat.lt_irrefl _)
  | succ k ih =>
    rintro i s st rfl hT ht hR
    exact sum_turn W hv hS (Nat.le_add_right _ _) hT ht (fun h => absurd h (Nat.ne_of_lt (Nat.lt_add_of_pos_right (Nat.succ_pos k)))) fun _ s' st' h2 h3 h4 => ih _ s' st' (Nat.succ_add_eq_add_succ i k) h2 h3 fun s2 t2 m => hR s2 t2 (Moved.trans W.gtrans h4 m)
end
section
variable {prog : Program} {w : World} {A : Around} {E : Value → Shared → Prop} {s : Shared} {x : Value} {k : Int} {t : Tok}
def SumOf (prog : Program) (w : World) (A : Around) (k : Int) (Q : Value → Shared → Prop) (it : Value) (s₂ : Shared) : Prop :=
  ∀ C : Value → Prop, (∀ I fp wr G n P T, ∀ ac : Nat → Int, WalksS prog w A.in1 I fp wr G n P T → T 0 s₂ → (∀ b ∈ fp, b < s₂.heap.objs.size) → ac 0 = k → Adds P ac → (∀ s' t', Moved wr G s₂ s' → Q (.int (ac n) t') s') → C (.ref I)) → C it
@[elab_as_elim] theorem SumOf.on {s₂ : Shared} {Q : Value → Shared → Prop} {it : Value} {C : Value → Prop} (h : SumOf prog w A k Q it s₂) (h2 : ∀ I fp wr G n P T, ∀ ac : Nat → Int, WalksS prog w A.in1 I fp wr G n P T → T 0 s₂ → (∀ b ∈ fp, b < s₂.heap.objs.size) → ac 0 = k → Adds P ac → (∀ s' t', Moved wr G s₂ s' → Q (.int (ac n) t') s') → C (.ref I)) : C it := h C h2
theorem sum_begin {st : Int} {tk : Nat} {it : Value} {s₂ : Shared} {Q : Value → Shared → Prop} (h : SumOf prog w A k Q it s₂) (htk : s₂.toks ≤ tk) :
    codeAny (model prog w) A (.builtin "sum.loop" ⟨[it, .ref s₂.heap.objs.size, rawInt st, rawInt 0], []⟩) (fun r s' => match r with | .ok (.ret v) => Q v s' | .ok _ => False | .error e => E e s') { s₂ with heap := s₂.heap.push { cls := .type "list", data := .seq #[.int k t] }, toks := tk } := by
  refine SumOf.on (it := it) h fun I fp wr G n P T ac W hst hfp h0 hv hQ => ?_
  exact sum_all W hv (fun hm => Nat.lt_irrefl _ (hfp _ hm)) n 0 _ st (Nat.zero_add _) (W.frame 0 s₂ _ _ hst htk fun b _ o e => Heap.get?_push_of_some _ e) ⟨_, _, by rw [h0]; exact Heap.get?_push_size _ rfl⟩ fun s' t' hm => hQ s' t' (hm.drop_new htk)
end
section
variable {prog : Program} {w : World} {A : Around} {E : Value → Shared → Prop} {s : Shared} {x : Value} {k : Int} {t : Tok}
theorem sum_ask {T : String} (hs : isSubtype (.type "int") (.type T) = pure false) {Q : Bool → Shared → Prop} (h : Q false s) : wpAny (model prog w) A (isInstance (.int k t) (.type T)) Q E s := wpAny_isInstance (typeIs_int _ _ _) hs h
theorem sum_tail {R : PySem.Fin → Shared → Prop} {it : Value} {st : Int} (hR : R (.again (.builtin "sum.loop" ⟨[it, .ref s.heap.objs.size, rawInt st, rawInt 0], []⟩)) { s with heap := s.heap.push { cls := .type "list", data := .seq #[.int k t] } }) : wpAny (model prog w) A (do
    for (ty, what, hint) in [("str", "strings", "''"), ("bytes", "bytes", "b''"), ("bytearray", "bytearray", "b''")] do
      if ← isInstance (.int k t) (.type ty) then
        rule "sum.start-refused"; raiseError "TypeError" s!"sum() can't sum {what} [use {hint}.join(seq) instead]"
    again (.builtin "sum.loop" ⟨[it, ← newList [.int k t], rawInt st, rawInt 0], []⟩) : Sem PySem.Fin) R E s := by
  refine wpAny_bind ?_
  rw [List.forIn_cons]
  refine wpAny_bind (wpAny_bind (sum_ask PySem.sub_int_str (w_neg Bool.false_ne_true (wpAny_pure ?_))))
  show wpAny _ _ (forIn _ _ _) _ _ _
  rw [List.forIn_cons]
  refine wpAny_bind (wpAny_bind (sum_ask PySem.sub_int_bytes (w_neg Bool.false_ne_true (wpAny_pure ?_))))
  show wpAny _ _ (forIn _ _ _) _ _ _
  rw [List.forIn_cons]
  refine wpAny_bind (wpAny_bind (sum_ask PySem.sub_int_bytearray (w_neg Bool.false_ne_true (wpAny_pure ?_))))
  exact wpAny_pure (wpAny_bind (wpAny_newObj_type (wpAny_pure hR)))
theorem call_sum1 {Q : Value → Shared → Prop} (h : wpAny (model prog w) A.in1 (pyIter x) (SumOf prog w A 0 Q) E s) : wpAny (model prog w) A (call (.builtin "sum") [x]) Q E s := by
  refine call_function_tree F.kind_sum F.plain_sum F.entry_sum (args_sum1' _) ?_
  refine wpAny_bind (wpAny_of_eq (show Builtin.Builtins.bindParams "sum" ["start"] 0 { } = pure [none] from rfl) ?_)
  refine wpAny_bind (wpAny_mono h (fun it s₂ h₂ => ?_) fun _ _ e => e)
  refine wpAny_bind (wpAny_mkInt (wpAny_bind (wpAny_pure ?_)))
  exact sum_tail (s := { s₂ with toks := s₂.toks + 1 }) ⟨plainId_quiet F.plain_sum_loop _, sum_begin (s₂ := s₂) h₂ (Nat.le_succ _)⟩
theorem call_sum2 {Q : Value → Shared → Prop} (h : wpAny (model prog w) A.in1 (pyIter x) (SumOf prog w A k Q) E s) : wpAny (model prog w) A (call (.builtin "sum") [x, .int k t]) Q E s := by
  refine call_function_tree F.kind_sum F.plain_sum F.entry_sum (args_sum2 _ _) ?_
  refine wpAny_bind (wpAny_of_eq (show Builtin.Builtins.bindParams "sum" ["start"] 0 ⟨[.int k t], []⟩ = pure [some (.int k t)] from rfl) ?_)
  refine wpAny_bind (wpAny_mono h (fun it s₂ h₂ => ?_) fun _ _ e => e)
  refine w_ite (fun _ => wpAny_bind (wpAny_rule (wpAny_bind (wpAny_mkInt (wpAny_bind (wpAny_pure ?_)))))) fun _ => wpAny_bind (wpAny_pure ?_)
  · exact sum_tail (s := { s₂ with toks := s₂.toks + 1 }) ⟨plainId_quiet F.plain_sum_loop _, sum_begin (s₂ := s₂) h₂ (Nat.le_succ _)⟩
  · exact sum_tail ⟨plainId_quiet F.plain_sum_loop _, sum_begin h₂ (Nat.le_refl _)⟩
end
def acI (k : Int) (ts : List Int) (i : Nat) : Int := k + sumI (ts.take i)
theorem sumI_app (b : List Int) : ∀ a : List Int, sumI (a ++ b) = sumI a + sumI b
  | [] => (Int.zero_add _).symm
  | x :: a => (congrArg (x + ·) (sumI_app b a)).trans (Int.add_assoc _ _ _).symm
theorem acI_step {k : Int} {ts : List Int} {i : Nat} {x : Int} (h : ts[i]? = some x) : acI k ts (i + 1) = acI k ts i + x := by
  unfold acI
  rw [List.take_add_one, h, sumI_app, ← Int.add_assoc]
  exact congrArg (k + sumI (ts.take i) + ·) (Int.add_zero x)
theorem acI_zero {k : Int} {ts : List Int} : acI k ts 0 = k := Int.add_zero k
theorem acI_all {k : Int} {ts : List Int} : acI k ts ts.length = k + sumI ts := congrArg (fun l => k + sumI l) List.take_length
section
variable {c : Cx} {S : Sto} {k0 : Nat}
theorem St.moved (a : St c S) {s' : Shared} {wr : List Addr} (m : Moved wr (fun x y => y = x) a.s s') (hw : ∀ z ∈ wr, a.s.heap.get? z = none) : ∃ b : St c S, b.s = s' ∧ To [] a b := by
  refine ⟨a.keep s'.heap s'.toks fun z o e => m.heap z o (fun q => no_some e (hw z q)) e, ?_, a.keep_to⟩
  show Shared.mk s'.heap a.s.gens a.s.drawn s'.toks a.s.os = s'
  rw [← m.gens, ← m.drawn, ← m.os]
theorem fn_sum {ts : List Int} : FN c k0 (Str.ofString "sum") [.d (.list (ts.map .int))] S (.d (.int (sumI ts)), S) := fn_boot (by kernel_rfl) (by kernel_rfl) (op1 fun A a u Q room hu h => by
  refine V.lsts hu fun b vs _ _ il lv => call_sum1 (wpAny_pyIter_list il fun C hC => ?_)
  have fr := Heap.get?_none_of_le (Nat.le_refl a.s.heap.objs.size)
  have hlt : b < a.s.heap.objs.size := let ⟨_, e, _⟩ := il; Heap.lt_size e
  have hl : vs.length = ts.length := lv.length.trans (List.length_map _)
  refine hC a.s.heap.objs.size [a.s.heap.objs.size, b] [a.s.heap.objs.size] _ vs.length _ _ (acI 0 ts) (Walks.list (prog := pw) (w := c.w) (A := A.in1) room.hd a.s.heap.objs.size b (Nat.ne_of_lt hlt) vs.toArray).toS ⟨⟨_, Heap.get?_push_size _ rfl, rfl, rfl⟩, il.push _⟩ ?_ acI_zero (fun i v hp C hC => ?_) fun s' t' m => ?_
  · show ∀ x ∈ _, x < (a.s.heap.push _).objs.size
    rw [Heap.size_push]
    exact all_c (Nat.lt_succ_self _) (all_c (Nat.lt_succ_of_lt hlt) all_n)
  · obtain ⟨d, e, hv⟩ := lv.get' (show vs[i]? = some v from (List.getElem?_toArray ..).symm.trans hp)
    rw [List.getElem?_map] at e
    obtain ⟨x, e2, rfl⟩ := ms e
    obtain ⟨t, rfl⟩ := hv.int_
    exact hC x t (acI_step e2)
  · obtain ⟨d, rfl, t⟩ := a.moved (s' := s') ⟨fun b o hb q => m.heap b o hb (Heap.get?_push_of_some _ q), m.gens, m.drawn, m.os, m.toks⟩ fun z q => by rw [List.mem_singleton.mp q]; exact fr
    exact h _ d t (by rw [hl, acI_all, Int.zero_add]; exact .int _ _))
end
def ofL (l : List Nat) : Str := ⟨l.toArray⟩
theorem ofL_len (l : List Nat) : (ofL l).length = l.length := rfl
theorem ofL_app (a b : List Nat) : ofL a ++ ofL b = ofL (a ++ b) := congrArg Str.mk (List.append_toArray a b)
theorem ofL_of (x : Str) : x = ofL x.cps.toList := rfl
theorem sjoin : ∀ ls : List (List Nat), Str.join emptyS (ls.map ofL) = ofL ls.flatten
  | [] => by decide +kernel
  | [a] => (congrArg ofL (List.append_nil a)).symm
  | a :: b :: r => by
    show ofL a ++ emptyS ++ Str.join emptyS ((b :: r).map ofL) = _
    rw [sjoin (b :: r), show emptyS = ofL [] by decide +kernel, ofL_app, ofL_app, List.append_nil]; rfl
theorem join_ofL (ls : List (List Nat)) : Txt.join emptyS (ls.map ofL) = ofL ls.flatten := (StrLaws.glued_eq_join ..).trans (sjoin ls)
def pcL (p : Str × Str) : List Nat := p.1.cps.toList ++ p.2.cps.toList
def txtL (ps : List (Str × Str)) : List Nat := ps.flatMap pcL
theorem pcL_len (p : Str × Str) : (pcL p).length = p.1.length + p.2.length := List.length_append
theorem pcStr_is (p : Str × Str) : Txt.join emptyS [p.1, p.2] = ofL (pcL p) := (join_ofL [p.1.cps.toList, p.2.cps.toList]).trans (congrArg (fun x => ofL (p.1.cps.toList ++ x)) (List.append_nil _))
theorem strTotal_is (ps : List (Str × Str)) : Txt.join emptyS (ps.map fun p => ofL (pcL p)) = ofL (txtL ps) := by
  have := join_ofL (ps.map pcL)
  rwa [List.map_map] at this
def Few (ps : List (Str × Str)) : Prop := ps.length ≤ 1000 ∧ ∀ p ∈ ps, p.1.length ≤ 8 ∧ p.2.length ≤ 8
theorem Few.pc {ps : List (Str × Str)} (h : Few ps) {p : Str × Str} (m : p ∈ ps) : (pcL p).length ≤ 16 := by
  rw [pcL_len]; exact Nat.add_le_add (h.2 p m).1 (h.2 p m).2
theorem flat_le {ps : List (Str × Str)} (h : ∀ p ∈ ps, (pcL p).length ≤ 16) : (txtL ps).length ≤ 16 * ps.length := by
  induction ps with
  | nil => exact Nat.zero_le _
  | cons p ps ih =>
    unfold txtL
    rw [List.flatMap_cons, List.length_append, Nat.add_comm]
    exact Nat.add_le_add (ih fun q m => h q (.tail _ m)) (h p (.head _))
theorem Few.len {ps : List (Str × Str)} (h : Few ps) : (txtL ps).length ≤ 16000 := Nat.le_trans (flat_le fun _ => h.pc) (Nat.mul_le_mul_left 16 h.1)
theorem joinOk_small {l : List Str} (h : (l.map Str.length).sum ≤ 16000) : JoinOk emptyS l = true := joinOk_of (by
  rw [show emptyS.length = 0 by decide +kernel]
  exact Nat.le_trans h (by decide))
theorem Few.join {ps : List (Str × Str)} (h : Few ps) : JoinOk emptyS (ps.map fun p => ofL (pcL p)) = true := joinOk_small (by
  rw [List.map_map]
  have := h.len
  unfold txtL at this
  rwa [List.length_flatMap] at this)
theorem Few.join2 {ps : List (Str × Str)} (h : Few ps) {p : Str × Str} (m : p ∈ ps) : JoinOk emptyS [p.1, p.2] = true := joinOk_small (Nat.le_trans (Nat.add_le_add (h.2 p m).1 (Nat.add_le_add (h.2 p m).2 (Nat.le_refl 0))) (by decide))
abbrev lenS : Str := Str.ofString "len"
abbrev fwsS : Str := Str.ofString "fws"
abbrev partS : Str := Str.ofString "part"
theorem nat63 {n : Nat} (h : n ≤ 17000) : ¬ ((n : Int) ≥ 2 ^ 63) := Int.not_le.mpr (Int.lt_of_le_of_lt (Int.ofNat_le.mpr h) (by decide))
theorem glob_len (c : Cx) : Glob c lenS (.builtin "len") := glob_boot (by kernel_rfl) (by kernel_rfl)
theorem glob_sum (c : Cx) : Glob c (Str.ofString "sum") (.builtin "sum") := glob_boot (by kernel_rfl) (by kernel_rfl)
section
variable {c : Cx} {A : Around} {s : Shared} {m : Str → Option Value} {cenv : Env} {x : Str} {u : Str} {t : Tok}
theorem lenName {E : Value → Shared → Prop} {np p q : Pos} {Q : Value → Shared → Prop} (hk : cenv.scope.kind = .function) (hg : cenv.kindOf lenS = some .globalImplicit) (hx : cenv.kindOf x = some .local) (hd : (x == "__debug__") = false) (h3 : cenv.globals = 3) (h0 : cenv.builtins = 0) (K : (zK c.w.params).In s.heap) (hns : s.heap.Ns cenv.locals m) (hm : m x = some (.str u t)) (hl : u.length ≤ 8)
    (h : ∀ t, Q (.int (u.length : Nat) t) { s with toks := s.toks + 1 + 1 }) : wpAny (model pw c.w) A (eval (.Call (.Name lenS np) [.Name x p] [] q) cenv) Q E s :=
  wpAny_mono (E := noE) (wpAny_Call_NameR (Calls.Name_function_global hk hg (glob_len c A cenv s _ h3 h0 K (cw_builtin c "len" A q q [] [.Name x p] cenv s Q rfl (wpAny_items_cons (wpAny_Name (wpAny_loadName_local hk hx hns hm (wpAny_items_nil ⟨K, PyProof.Rows.len_str (nat63 (Nat.le_trans hl (by decide))) (h _)⟩)) hd) rfl))) rfl)) (fun _ _ z => z) fun _ _ z => z.elim
end
section
variable {c : Cx} {S : Sto} {i k0 : Nat} {k : Int} {ps : List (Str × Str)}
def pcLen (p : Str × Str) : Int := ((p.1.length : Nat) : Int) + ((p.2.length : Nat) : Int)
theorem sum_len : ∀ ps : List (Str × Str), sumI (ps.map pcLen) = ((txtL ps).length : Nat)
  | [] => rfl
  | p :: ps => by
    show pcLen p + sumI (ps.map pcLen) = (((pcL p ++ txtL ps).length : Nat) : Int)
    rw [sum_len ps, List.length_append, pcL_len]; rfl
set_option maxHeartbeats 400000 in
theorem len_ex (eS : S[i]? = some (.acc (psD ps) k)) (F : Few ps) : EXc ⟨c, k0, ksOf (fScope (cls 2 4))⟩ (.ref 60) (fBody (cls 2 4)) (envL ([selfS].zip [.ref i])) S (.ret (.d (.int (k + ((txtL ps).length : Nat)))), S) := fun env A a Q hc P hh => by
  refine wpAny_execs_cons (wpAny_Return_some (wpAny_Call_NameR (Calls.Name_function_global P.fm.kind (P.fm.gl (Str.ofString "sum") (by kernel_rfl)) (glob_sum c A env a.s _ P.fm.globals P.fm.builtins a.good.kin ?_) rfl)))
  refine cw_builtin c "sum" A _ _ [] [.GeneratorExp _ _ _ _, .Attribute _ _ _] env a.s _ rfl (wpAny_items_cons (gen_ok (oc := o2x60 c.w.params) (f := ⟨c, k0, ksOf (fScope (cls 2 4))⟩) (F := fun j y => ∃ t, ∃ p, ps[j]? = some p ∧ y = .int (pcLen p) t) P (by kernel_rfl) rfl eS ⟨rfl, by decide +kernel, by decide +kernel, by decide +kernel, by decide +kernel, by decide +kernel, by decide +kernel, rfl⟩ hc ⟨.head _, by kernel_rfl, rfl, rfl, rfl, rfl, rfl, rfl, rfl, rfl⟩ ?_ fun I b fp wr g R T G => ?_) rfl)
  · intro A' E' j x y t u s₂ m₂ cenv hA' hj hsc hg3 hb0 hns hma hmb K
    have m := F.2 _ (List.mem_of_getElem? hj)
    have hk' : cenv.scope.kind = .function := by rw [hsc]
    have kk : ∀ y, cenv.kindOf y = _ := fun y => by show cenv.scope.names.lookup y = _; rw [hsc]
    exact wpAny_BinOp (lenName hk' ((kk _).trans (by decide +kernel)) ((kk _).trans (by decide +kernel)) rfl hg3 hb0 K hns hma m.1 fun t1 => lenName (s := { s₂ with toks := s₂.toks + 1 + 1 }) hk' ((kk _).trans (by decide +kernel)) ((kk _).trans (by decide +kernel)) rfl hg3 hb0 K hns hmb m.2 fun t2 => wpAny_add_int ⟨⟨_, _, hj, rfl⟩, _, _, rfl, fun _ _ e => e⟩)
  · refine wpAny_items_cons (Attribute_Name_ (wpAny_Name ((P.to G.to).fm.load (x := selfS) (by kernel_rfl) rfl fun w hw => ?_) rfl)) rfl
    refine b.ac hw eS fun {o dx vs n t t'} eo ed ho hd lv => accDict_ns1 hd fun tok hns => acc_getAttr ho b.good.kin hns ?_
    refine wpAny_items_nil ⟨b.good.kin, ?_⟩
    have W := G.walk.of_in1.of_in1.of_in1
    have st := G.walk.frame 0 b.s b.s.heap _ G.st (Nat.le_succ b.s.toks) fun _ _ _ e => e
    refine call_sum2 (W.self 0 _ _ _ st fun C hC => hC I fp wr _ ps.length R T (acI k (ps.map pcLen)) W st G.lt acI_zero (fun j v hp C hC => ?_) fun s' t' m => ?_)
    · obtain ⟨t, p, e1, rfl⟩ := G.is j v hp
      exact hC _ t (acI_step (by rw [List.getElem?_map, e1]; rfl))
    · obtain ⟨d, rfl, td⟩ := G.end_ s' ⟨m.heap, m.gens, m.drawn, m.os, Nat.le_trans (Nat.le_succ _) m.toks⟩
      refine hh (.ret _) d (own_nx P td) ⟨_, rfl, ?_⟩
      rw [← List.length_map pcLen, acI_all, sum_len]
      exact .int _ _
end
section
variable {c : Cx} {A : Around} {E : Value → Shared → Prop} {s : Shared}
theorem acc_callSpecialF {a dx : Addr} {vs : List Value} {n : Nat} {f : Addr} (ho : s.heap.get? a = some (accObj dx vs n)) (K : (zK c.w.params).In s.heap) {name : Str} (e : findIn (zK c.w.params) (.ref 94) name = some (some (.ref f))) (et : peek (zK c.w.params) ⟨pw, c.w.params⟩ (typeOf (.ref f)) = some (.type "function")) {args : List Value} {Q : Option Value → Shared → Prop}
    (h : wpAny (model pw c.w) A (PySem.call (.ref f) (.ref a :: args)) (fun v => Q (some v)) E s) : wpAny (model pw c.w) A (callSpecial? (.ref a) name args) Q E s := by
  unfold callSpecial?
  refine wpAny_bind (acc_special ho K e (wpAny_holding ?_))
  unfold bindSpecial
  exact wpAny_bind (wpAny_bind (Looks.here (Looks.of_peek K et) (wpAny_pure (wpAny_bind (wpAny_mono h (fun v s' h' => wpAny_pure h') fun _ _ x => x)))))
end
section
variable {c : Cx} {S : Sto} {i k0 : Nat} {k : Int} {ps : List (Str × Str)}
theorem len_meth (eS : S[i]? = some (.acc (psD ps) k)) (F : Few ps) : OpOk c (12 + k0 + 1) (fun us => call (.ref 61) us) [.ref i] S (.d (.int (k + ((txtL ps).length : Nat))), S) :=
  user_ok (m_len c) (dvs := []) (fun _ => .nil) (len_ex eS F) rfl lv_d0
def accLen (k : Int) (ps : List (Str × Str)) : Int := k + ((txtL ps).length : Nat)
theorem accLen_ok (F : Few ps) (hk : 0 ≤ k ∧ k ≤ 1000) : ¬ accLen k ps < 0 ∧ ¬ accLen k ps ≥ 2 ^ 63 := by
  have := F.len
  unfold accLen
  exact ⟨Int.not_lt.mpr (Int.add_nonneg hk.1 (Int.natCast_nonneg _)), Int.not_le.mpr (Int.lt_of_le_of_lt (Int.add_le_add hk.2 (Int.ofNat_le.mpr this)) (by decide))⟩
theorem len_run {A : Around} {a : St c S} {u : Value} (eS : S[i]? = some (.acc (psD ps) k)) (F : Few ps) (hk : 0 ≤ k ∧ k ≤ 1000) (room : Room (12 + k0 + 1) A) (hu : a.vv u (.ref i)) {R : PySem.Fin → Shared → Prop} {E : Value → Shared → Prop} (h : ∀ t (b : St c S), To [] a b → R (.done (.ret (.int (accLen k ps) t))) b.s) : wpAny (model pw c.w) A (Builtin.«len» ⟨[u], []⟩) R E a.s := by
  have hk := accLen_ok F hk
  refine a.ac hu eS fun {o dx vs n t t'} eo ed ho hd lv => ?_
  refine wpAny_bind (m := oneArg "len" _) (wpAny_pure ?_)
  refine wpAny_bind (m := callSpecial? (.ref o.a) (Str.ofString "__len__")) (acc_callSpecialF (f := 61) ho a.good.kin (by kernel_rfl) (by kernel_rfl) ?_)
  refine wpAny_mono (E := noE) (len_meth eS F A a [.ref o.a] (fun u s => ∃ t b, To [] a b ∧ u = .int (accLen k ps) t ∧ s = St.s b) room (.cons ⟨o, eo, rfl⟩ .nil) fun u b t hu => hu.ints fun tk => ⟨tk, b, t, rfl, rfl⟩) (fun u s hq => ?_) fun _ _ x => x.elim
  obtain ⟨tk, b, t, rfl, rfl⟩ := hq
  exact wpAny_bind (wpAny_holding (wpAny_pure (wpAny_bind (wpAny_letGo (w_neg hk.1 (w_neg hk.2 (wpAny_bind (wpAny_mkInt (wpAny_pure (h _ (b.tok _) (t.trans b.tok_to)))))))))))
theorem fn_len_acc (eS : S[i]? = some (.acc (psD ps) k)) (F : Few ps) (hk : 0 ≤ k ∧ k ≤ 1000) : FN c (k0 + 2) (Str.ofString "len") [.ref i] S (.d (.int (accLen k ps)), S) := fn_boot (by kernel_rfl) (by kernel_rfl) (op1 fun A a u Q room hu h =>
  call_function_entry kind_len plain_len entry_len (args_len1 _) (len_run (k0 := k0) eS F hk room.in1 hu fun t b to => ⟨_, rfl, h _ b to (.int _ _)⟩))
end
abbrev emptyN : Str := Str.ofString "EMPTYSTRING"
theorem glob_empty (c : Cx) : Glob c emptyN (.str emptyS 189) := glob_own (by kernel_rfl)
theorem emptyJoin {c : Cx} {A : Around} {env : Env} {s : Shared} {e : Expr} {pn ap pos : Pos} {Q : Value → Shared → Prop} (hk : env.scope.kind = .function) (hg : env.kindOf emptyN = some .globalImplicit) (h3 : env.globals = 3) (h0 : env.builtins = 0) (K : (zK c.w.params).In s.heap) (hp : (ap.endLine == pos.line) = true) (hs : isStar e = false)
    (h : wpAny (model pw c.w) A (eval e env) (fun v s1 => (zK c.w.params).In s1.heap ∧ wpAny (model pw c.w) A (call (.builtin "str.join") [.str emptyS 189, v]) Q noE s1) noE s) :
    wpAny (model pw c.w) A (eval (.Call (.Attribute (.Name emptyN pn) (Str.ofString "join") ap) [e] [] pos) env) Q noE s := by
  have hs1 : [e].any isStar = false := by rw [List.any_cons, hs]; rfl
  rw [arm_eval_Call, base_of rfl]
  refine wpAny_bind (Calls.Name_function_global hk hg (glob_empty c A env s _ h3 h0 K (wpAny_bind (wpAny_standAt ?_))) rfl)
  exact methodCall_few hs1 (Nat.le_of_ble_eq_true rfl) hp fun pl => GM.join (cw_builtin c "str.join" A _ pos [_] [e] env s Q hs1 (wpAny_items_cons (wpAny_mono h (fun v s1 h1 => wpAny_items_nil h1) fun _ _ x => x) (starEach_cons hs)))
section
variable {c : Cx} {S : Sto} {i k0 : Nat} {k : Int} {ps : List (Str × Str)}
theorem itemsOf_texts {f : Str × Str → Str} {l : List (Str × Tok)} (h : ItemsOf (fun j y => ∃ t, ∃ p, ps[j]? = some p ∧ y = Value.str (f p) t) (strValues l).toArray ps.length) : l.map (·.1) = ps.map f := by
  have hl : l.length = ps.length := (List.length_map fun p : Str × Tok => Value.str p.1 p.2).symm.trans h.1
  refine List.ext_getElem? fun j => ?_
  rw [List.getElem?_map, List.getElem?_map]
  cases e : l[j]? with
  | none => rw [List.getElem?_eq_none_iff.mpr (hl ▸ List.getElem?_eq_none_iff.mp e)]; rfl
  | some x =>
    obtain ⟨t, p, e1, e2⟩ := h.2 j (.str x.1 x.2) (by rw [List.getElem?_toArray]; unfold strValues; rw [List.getElem?_map, e]; rfl)
    rw [e1]; exact congrArg some (Value.str.inj e2).1
theorem str_ex (eS : S[i]? = some (.acc (psD ps) k)) (Fw : Few ps) : EXc ⟨c, k0, ksOf (fScope (cls 2 5))⟩ (.ref 67) (fBody (cls 2 5)) (envL ([selfS].zip [.ref i])) S (.ret (.d (.str (ofL (txtL ps)))), S) := fun env A a Q hc P hh => by
  refine wpAny_execs_cons (wpAny_Return_some (emptyJoin P.fm.kind (P.fm.gl emptyN (by kernel_rfl)) P.fm.globals P.fm.builtins a.good.kin rfl rfl (gen_ok (oc := o2x67 c.w.params) (f := ⟨c, k0, ksOf (fScope (cls 2 5))⟩) (F := fun j y => ∃ t, ∃ p, ps[j]? = some p ∧ y = .str (ofL (pcL p)) t) P (by kernel_rfl) rfl eS ⟨rfl, by decide +kernel, by decide +kernel, by decide +kernel, by decide +kernel, by decide +kernel, by decide +kernel, rfl⟩ hc ⟨.tail _ (.head _), by kernel_rfl, rfl, rfl, rfl, rfl, rfl, rfl, rfl, rfl⟩ ?_ fun I b fp wr g R T G => ⟨b.good.kin, ?_⟩)))
  · intro A' E' j x y t u s₂ m₂ cenv hA' hj hsc hg3 hb0 hns hma hmb K
    have ok := Fw.join2 (List.mem_of_getElem? hj)
    have ok2 := ok
    unfold JoinOk at ok
    rw [Bool.not_eq_true'] at ok
    have hk' : cenv.scope.kind = .function := by rw [hsc]
    have kk : ∀ y, cenv.kindOf y = _ := fun y => by show cenv.scope.names.lookup y = _; rw [hsc]
    refine wpAny_mono (Q := fun y s₃ => (∃ t, ∃ p, ps[j]? = some p ∧ y = .str (ofL (pcL p)) t) ∧ Keeps s₂ s₃) (E := noE) (emptyJoin hk' ((kk _).trans (by decide +kernel)) hg3 hb0 K rfl rfl (wpAny_Tuple (wpAny_items_cons (wpAny_Name (wpAny_loadName_local hk' ((kk _).trans (by decide +kernel)) hns hma (wpAny_items_cons (wpAny_Name (wpAny_loadName_local hk' ((kk _).trans (by decide +kernel)) hns hmb (wpAny_items_nil ⟨Nat.le_of_ble_eq_true rfl, fun b' o' e' => Heap.get?_push_of_some _ (K b' o' e'), ?_⟩)) rfl) rfl)) rfl) rfl))) (fun _ _ z => z) fun _ _ z => z.elim
    exact call_meets F.slot_str_join (typeIs_str _ _ _) F.entry_str_join (F.args_str_join_2 _ _) (meets_str_join_tuple emptyS 189 s₂.heap.objs.size [(x, t), (y, u)] ok) ⟨⟨_, 0, Heap.get?_push_size _ rfl, rfl, rfl⟩, post_join [(x, t), (y, u)] ⟨joinFit_length ok, fun t' k' => ⟨⟨_, _, hj, congrArg (Value.str · _) (pcStr_is (x, y))⟩, _, _, rfl, fun _ _ e => Heap.get?_push_of_some _ e⟩⟩⟩
  · refine SC.joinGen (x := emptyS) G.walk.of_in1.of_in1 G.ty G.st G.lt G.mem (fun j v hv => let ⟨t, p, _, e⟩ := G.is j v hv; ⟨_, t, e⟩) (fun s' ll m it => ?_) (Nat.le_trans Fw.1 (by decide))
    rw [itemsOf_texts (ps := ps) ⟨it.1, fun j v hv => G.is j v (it.2 j v hv)⟩]
    refine ⟨Fw.join, fun t' k' => ?_⟩
    obtain ⟨d, rfl, td⟩ := G.end_ s' m
    exact hh (.ret _) (d.tok k') (own_nx P (td.trans d.tok_to)) ⟨_, rfl, strTotal_is ps ▸ .str _ _⟩
theorem str_meth (eS : S[i]? = some (.acc (psD ps) k)) (Fw : Few ps) : OpOk c (12 + k0 + 1) (fun us => call (.ref 68) us) [.ref i] S (.d (.str (ofL (txtL ps))), S) :=
  user_ok (m_str c) (dvs := []) (fun _ => .nil) (str_ex eS Fw) rfl lv_d0
theorem fn_str_acc (eS : S[i]? = some (.acc (psD ps) k)) (Fw : Few ps) : FN c (k0 + 3) (Str.ofString "str") [.ref i] S (.d (.str (ofL (txtL ps))), S) := ⟨.type "str", glob_boot (by kernel_rfl) (by kernel_rfl), cw_type c "str", op1 fun A a u Q room hu h => by
  have r2 : Room (12 + k0 + 1) A.in1.in1 := Room.in1 (Room.in1 room)
  refine a.ac hu eS fun {o dx vs n t t'} eo ed ho hd lv => ?_
  refine kso_call (K := zK c.w.params) (C := 94) (f := 68) (ox := accObj dx vs n) (od := some (accDict c.w.params k t t')) r2.line a.good.kin ⟨ho, rfl, rfl, hd⟩ (by kernel_rfl) (by kernel_rfl) ?_
  exact str_meth eS Fw A.in1.in1 a [.ref o.a] _ r2 (.cons ⟨o, eo, rfl⟩ .nil) fun u b to hu => hu.strs fun t => h _ b to (.str _ _)⟩
end
theorem lk_wd_get : typeLookup (.type "wrapper_descriptor") "__get__" = pure (some (.builtin "wrapper_descriptor.__get__")) := by rw [typeLookup_type, builtinLookup_eq_fast]; kernel_rfl
theorem lk_md_get : typeLookup (.type "method_descriptor") "__get__" = pure (some (.builtin "method_descriptor.__get__")) := by rw [typeLookup_type, builtinLookup_eq_fast]; kernel_rfl
theorem slot_wd_get : Slot "wrapper_descriptor" "__get__" "wrapper_descriptor.__get__" := .of (owner := "wrapper_descriptor") (n := "__get__") lk_wd_get (by decide +kernel) (by decide +kernel) (by decide +kernel)
  (by first | exact .inl (by decide +kernel) | exact .inr (by decide +kernel)) (by rw [isSubtype_type]; kernel_rfl)
theorem slot_md_get : Slot "method_descriptor" "__get__" "method_descriptor.__get__" := .of (owner := "method_descriptor") (n := "__get__") lk_md_get (by decide +kernel) (by decide +kernel) (by decide +kernel)
  (by first | exact .inl (by decide +kernel) | exact .inr (by decide +kernel)) (by rw [isSubtype_type]; kernel_rfl)
theorem entry_wd_get : entryFor table "wrapper_descriptor.__get__" = some Builtin.«wrapper_descriptor.__get__» := entryFor_of_tree (by kernel_rfl)
theorem entry_md_get : entryFor table "method_descriptor.__get__" = some Builtin.«method_descriptor.__get__» := entryFor_of_tree (by kernel_rfl)
theorem args_wd_get (a b d : Value) : argsOk "wrapper_descriptor.__get__" ⟨[a, b, d], []⟩ := by unfold argsOk; kernel_rfl
theorem args_md_get (a b d : Value) : argsOk "method_descriptor.__get__" ⟨[a, b, d], []⟩ := by unfold argsOk; kernel_rfl
structure Bnd (id ty bt : String) : Prop where
  tyIs : typeOf (.builtin id) = pure (.type ty)
  sub : ∀ c : Cx, peek (zK c.w.params) ⟨pw, c.w.params⟩ (isSubtype (.ref 94) (.type (".".intercalate (id.cutAt '.').dropLast))) = some true
  kind : (ty = "wrapper_descriptor" ∧ bt = "method-wrapper") ∨ (ty = "method_descriptor" ∧ bt = "builtin_function_or_method")
  told : ¬ Manifest.toldItsClass.contains id = true
  plain : plainId id = true
theorem bnd_len : Bnd "list.__len__" "wrapper_descriptor" "method-wrapper" := ⟨by kernel_rfl, fun c => by kernel_rfl, .inl ⟨rfl, rfl⟩, by decide +kernel, by decide +kernel⟩
theorem bnd_ini : Bnd "list.__init__" "wrapper_descriptor" "method-wrapper" := ⟨by kernel_rfl, fun c => by kernel_rfl, .inl ⟨rfl, rfl⟩, by decide +kernel, by decide +kernel⟩
theorem bnd_pop : Bnd "list.pop" "method_descriptor" "builtin_function_or_method" := ⟨by kernel_rfl, fun c => by kernel_rfl, .inr ⟨rfl, rfl⟩, by decide +kernel, by decide +kernel⟩
theorem bnd_gi : Bnd "list.__getitem__" "method_descriptor" "builtin_function_or_method" := ⟨by kernel_rfl, fun c => by kernel_rfl, .inr ⟨rfl, rfl⟩, by decide +kernel, by decide +kernel⟩
theorem Bnd.lk {id ty bt : String} (b : Bnd id ty bt) : typeLookup (.type ty) "__get__" = pure (some (.builtin (ty ++ ".__get__"))) := by
  rcases b.kind with ⟨rfl, _⟩ | ⟨rfl, _⟩
  · exact lk_wd_get
  · exact lk_md_get
theorem Bnd.bt {id ty bt : String} (b : Bnd id ty bt) : bt = "method-wrapper" ∨ bt = "builtin_function_or_method" := b.kind.imp (·.2) (·.2)
section
variable {c : Cx} {A : Around} {E : Value → Shared → Prop} {s : Shared} {a dx : Addr} {vs : List Value} {n : Nat}
set_option maxHeartbeats 2000000 in
theorem bnd_get {id ty bt : String} (b : Bnd id ty bt) (ho : s.heap.get? a = some (accObj dx vs n)) (K : (zK c.w.params).In s.heap) {Q : Value → Shared → Prop}
    (h : Q (.ref s.heap.objs.size) { s with heap := s.heap.push { cls := .type bt, data := .fields #[.builtin id, .ref a] } }) : wpAny (model pw c.w) A (call (.builtin (ty ++ ".__get__")) [.builtin id, .ref a, .ref 94]) Q E s := by
  have fin : ∀ {A' : Around} {bt' : String}, bt' = bt → wpAny (model pw c.w) A' (do
      let r ← newFields bt' [.builtin id, .ref a]
      ret r) (fun fin s' => ∃ v, fin = .done (.ret v) ∧ Q v s') E s := fun e => wpAny_bind (wpAny_newObj_type (wpAny_pure ⟨_, rfl, e ▸ h⟩))
  have ins : ∀ {A' : Around} {Q : Bool → Shared → Prop}, Q true s → wpAny (model pw c.w) A' (isInstance (.ref a) (.type (".".intercalate (id.cutAt '.').dropLast))) Q E s := fun h => wpAny_bind (acc_type ho (Looks.here (Looks.of_peek K (b.sub c)) h))
  rcases b.kind with ⟨rfl, e⟩ | ⟨rfl, e⟩
  · refine wpAny_call_entry slot_wd_get b.tyIs entry_wd_get ?_ (args_wd_get _ _ _)
    exact wpAny_bind (m := pure (Value.builtin id, some (Value.ref a), some (Value.ref 94))) (wpAny_pure (wpAny_bind (wpAny_bind (wpAny_pure (wpAny_bind (ins (w_neg Bool.false_ne_true (wpAny_pure (fin e.symm)))))))))
  · refine wpAny_call_entry slot_md_get b.tyIs entry_md_get ?_ (args_md_get _ _ _)
    exact wpAny_bind (m := pure (Value.builtin id, some (Value.ref a), some (Value.ref 94))) (wpAny_pure (w_neg b.told (wpAny_bind (wpAny_bind (wpAny_pure (wpAny_bind (ins (w_neg Bool.false_ne_true (wpAny_pure (fin e.symm))))))))))
end
abbrev supO (a : Addr) : Obj := { cls := .type "super", dict := none, data := .fields #[.ref 94, .ref a, .ref 94], slots := #[] }
section
variable {c : Cx} {A : Around} {E : Value → Shared → Prop} {h : Heap} {g : Array GenState} {d : Drawn} {t : Nat} {os : OsState} {a so dx : Addr} {vs : List Value} {n : Nat}
theorem sup_ga {id ty bt : String} {name : Str} {tk : Tok} {Q : Fin → Shared → Prop} (b : Bnd id ty bt) (hso : h.get? so = some (supO a)) (ho : h.get? a = some (accObj dx vs n)) (K : (zK c.w.params).In h) (ha : a ≠ 94)
    (hf : alongIn (zK c.w.params) name [.type "list", .type "object"] = some (some (.builtin id))) (hn : (name == ("__class__" : Str)) = false)
    (hq : Q (.done (.ret (.ref h.objs.size))) ⟨h.push { cls := .type bt, data := .fields #[.builtin id, .ref a] }, g, d, t, os⟩) :
    wpAny (model pw c.w) A (Builtin.«super.__getattribute__» ⟨[.ref so, .str name tk], []⟩) Q E ⟨h, g, d, t, os⟩ := by
  have hne : ¬ (Value.ref a == Value.ref 94) = true := fun q => ha (Value.ref.inj (eq_of_beq q))
  have hno : Looks (model pw c.w) h (opaqueClassAbove (.ref 94)) none := Looks.of_peek K (by kernel_rfl)
  have hC : Looks (model pw c.w) h (mroOf (.ref 94)) [.ref 94, .type "list", .type "object"] := Looks.of_peek K (acc_mro c)
  have hdt : (supO a).data = .fields #[.ref 94, .ref a, .ref 94] := rfl
  refine wpAny_bind (wpAny_pure ?_)
  refine w_neg Bool.false_ne_true (wpAny_bind (wpAny_pure ?_))
  refine wpAny_bind (wpAny_field hso hdt (x := .ref 94) rfl (wpAny_bind (wpAny_field hso hdt (x := .ref a) rfl (wpAny_bind (wpAny_field hso hdt (x := .ref 94) rfl ?_)))))
  refine w_neg (by rw [hn]; exact Bool.false_ne_true) ?_
  refine wpAny_bind (ks_wpAny_notOpaque hno (w_neg Bool.false_ne_true (wpAny_bind (Looks.at hC ?_))))
  refine wpAny_bind (ks_forIn_along (l := [.type "list", .type "object"]) K (fun _ _ => rfl) rfl ?_ hf)
  refine wpAny_bind (wpAny_of_eq b.tyIs (wpAny_bind (wpAny_of_eq b.lk (wpAny_bind (wpAny_holding ?_)))))
  rw [if_neg hne]
  exact bnd_get b ho K (wpAny_bind (wpAny_pure (wpAny_pure (wpAny_pure hq))))
end
def ChkOk (id : String) : Prop := ∀ (c : Cx) (A : Around) (E : Value → Shared → Prop) (s : Shared) (a dx : Addr) (vs : List Value) (n : Nat) (Q : Unit → Shared → Prop), s.heap.get? a = some (accObj dx vs n) → (zK c.w.params).In s.heap → Q () s → wpAny (model pw c.w) A (checkBoundCall id ⟨[.ref a], []⟩) Q E s
theorem chk_len : ChkOk "list.__len__" := fun c A E s a dx vs n Q ho K h => w_eq (show checkBoundCall "list.__len__" ⟨[.ref a], []⟩ = pure () by kernel_rfl) (wpAny_pure h)
theorem chk_ini : ChkOk "list.__init__" := fun c A E s a dx vs n Q ho K h => w_eq (show checkBoundCall "list.__init__" ⟨[.ref a], []⟩ = pure () by kernel_rfl) (wpAny_pure h)
def cdOf (o : Obj) : ClassData := match o.data with | .cls c => c | _ => default
theorem chk_pop : ChkOk "list.pop" := fun c A E s a dx vs n Q ho K h => by
  have hk : builtinKind "list.pop" = some .method := by decide +kernel
  have hm : peek (zK c.w.params) ⟨pw, c.w.params⟩ (isSubtype (.ref 94) (.type "module")) = some false := by kernel_rfl
  have hc : peek (zK c.w.params) ⟨pw, c.w.params⟩ (classData 94) = some (cdOf (o2x94 c.w.params)) := by kernel_rfl
  have ht : peek (zK c.w.params) ⟨pw, c.w.params⟩ (typeOf (.ref 94)) = some (.type "type") := by kernel_rfl
  obtain ⟨sig, h1, h2⟩ : ∃ sig, Manifest.signature? "list.pop" = some sig ∧ Bind.checkArgs "list.pop" { sig with full := s!"{(cdOf (o2x94 c.w.params)).qualname.toString}.{Bind.lastOf "list.pop"}" } ⟨[.ref a], []⟩ = pure () := by
    rw [signature?_of (id := "list.pop") (n := ['p', 'o', 'p']) (o := ['t', 's', 'i', 'l']) (by kernel_rfl) PySem.F.owner_list]
    exact ⟨_, rfl, by kernel_rfl⟩
  unfold checkBoundCall
  rw [h1, hk]
  refine w_neg (by decide) (wpAny_bind (wpAny_bind (acc_type ho (Looks.here (Looks.of_peek K hm) ?_))))
  refine w_neg (by decide +kernel) (wpAny_bind (ks_wpAny_isType_inst ho (fun cd q => nomatch q) (w_neg Bool.false_ne_true (wpAny_bind (acc_type ho ?_)))))
  refine wpAny_bind (Looks.here (Looks.of_peek K hc) (wpAny_bind (Looks.here (Looks.of_peek K ht) (w_pos rfl ?_))))
  exact w_eq h2 (wpAny_pure h)
section
variable {c : Cx} {A : Around} {E : Value → Shared → Prop} {h : Heap} {g : Array GenState} {d : Drawn} {t : Nat} {os : OsState} {a so dx : Addr} {vs : List Value} {n : Nat}
theorem sup_getMethod {id ty bt : String} {name : Str} {pl : Sem Bool} {Q : Value × List Value → Shared → Prop} (b : Bnd id ty bt) (hso : h.get? so = some (supO a)) (ho : h.get? a = some (accObj dx vs n)) (K : (zK c.w.params).In h) (ha : a ≠ 94)
    (hf : alongIn (zK c.w.params) name [.type "list", .type "object"] = some (some (.builtin id))) (hn : (name == ("__class__" : Str)) = false)
    (hq : Q (.ref h.objs.size, []) ⟨h.push { cls := .type bt, data := .fields #[.builtin id, .ref a] }, g, d, t + 1, os⟩) :
    wpAny (model pw c.w) A (getMethod (.ref so) name pl) Q E ⟨h, g, d, t, os⟩ := by
  have hlk := F.ks_slot_super_ga.lookup
  have hT : ∀ t', (⟨h, g, d, t', os⟩ : Shared).TypeIs (.ref so) "super" := fun _ => ⟨_, hso, rfl⟩
  refine wpAny_bind (wpAny_specialOf (hT _) hlk (w_pos F.ks_canon_super_ga ?_))
  refine wpAny_bind (wpAny_bind (wpAny_mkText (wpAny_holding (wpAny_bind (wpAny_typeOf (hT _) (wpAny_bind (wpAny_of_eq hlk (w_neg (by decide) ?_))))))))
  refine wpAny_bind (w_neg Bool.false_ne_true (wpAny_pure ?_))
  refine wpAny_bind (wpAny_attempt (wpAny_holding (w_neg Bool.false_ne_true (wpAny_bind (wpAny_of_eq (F.ks_slot_super_ga.bind _) ?_)))))
  refine wpAny_mono (Q := fun v s' => v = .ref h.objs.size ∧ s' = ⟨h.push { cls := .type bt, data := .fields #[.builtin id, .ref a] }, g, d, t + 1, os⟩) (E := noE)
    (wpAny_call_entry F.ks_slot_super_ga (hT _) F.ks_entry_super_ga (sup_ga b hso ho K ha hf hn ⟨_, rfl, rfl, rfl⟩) (F.ks_gaArgs_super _ _)) (fun v s' hv => ?_) fun _ _ z => z.elim
  obtain ⟨rfl, rfl⟩ := hv
  exact wpAny_pure (wpAny_pure hq)
theorem sup_keeper {id bt : String} {m : Addr} (hm : h.get? m = some { cls := .type bt, data := .fields #[.builtin id, .ref a] }) (hb : bt = "method-wrapper" ∨ bt = "builtin_function_or_method") : Looks (model pw c.w) h (keeperOf (.ref m)) .machine := by
  refine (Looks.ld (part := none) hm).andThen ?_
  rcases hb with rfl | rfl <;> exact .now
theorem sup_call {id ty bt : String} {bi : Builtin} {m : Addr} {pos : Pos} {env : Env} {Q : Value → Shared → Prop} (b : Bnd id ty bt) (ck : ChkOk id) (hb : entryFor table id = some bi) (hm : h.get? m = some { cls := .type bt, data := .fields #[.builtin id, .ref a] }) (ho : h.get? a = some (accObj dx vs n)) (K : (zK c.w.params).In h)
    (hc : wpAny (model pw c.w) A.in1 (bi ⟨[.ref a], []⟩) (fun fin s' => ∃ v, fin = .done (.ret v) ∧ Q v s') noE ⟨h, g, d, t, os⟩) : wpAny (model pw c.w) A (callWith pos (.ref m) [] (backTo pos (starEach [] env)) []) Q noE ⟨h, g, d, t, os⟩ := by
  have b1 : ((Value.type bt == .type "method") || (Value.type bt == .type "builtin_function_or_method") || (Value.type bt == .type "method-wrapper")) = true := by
    rcases b.bt with rfl | rfl <;> rfl
  have b2 : (Value.type bt != .type "method") = true := by
    rcases b.bt with rfl | rfl <;> rfl
  unfold callWith
  refine wpAny_bind (wpAny_holding (evalArgs_nil3 (wpAny_bind (wpAny_standAt (wpAny_bind ((sup_keeper (c := c) hm b.bt).here (wpAny_bind ?_)))))))
  refine wpAny_mono (Q := Q) ?_ (fun r s₂ hr => wpAny_bind (wpAny_holding (wpAny_point (wpAny_pure hr)))) fun _ _ y => y
  refine wpAny_call (codeAny_of_tree ?_)
  show wpAny _ A.in1 (callAny (.ref m) _) _ _ _
  refine wpAny_bind (wpAny_load hm (w_pos b1 (w_pos b2 (wpAny_bind (ck c _ _ _ a dx vs n _ ho K (wpAny_pure ⟨plainId_quiet b.plain _, codeAny_builtin hb ?_⟩))))))
  rw [Around.under_plainId b.plain _]
  refine wpAny_mono hc (fun fin s' h' => ?_) fun _ _ h' => h'
  obtain ⟨v, rfl, hv⟩ := h'
  exact hv
end
abbrev clsS : Str := Str.ofString "__class__"
structure CloAt (c : Cx) (st : Stmt) (ps : List Str) (a : Addr) (fd : FuncData) (cc : Addr) (vs : Array Value) (file : Str) (tf : Tok) (ar : Arg) : Prop where
  obj : ∃ o, (zK c.w.params).lookup a = some o ∧ o.data = .func fd
  body : fd.body = .stmts (fBody st)
  scope : fd.scope = fScope st
  clo : fd.closure = [(clsS, 18)]
  gl : fd.globals = 3
  bu : fd.builtins = 0
  code : fd.code = .ref cc
  codeO : ∃ o, (zK c.w.params).lookup cc = some o ∧ o.data = .fields vs
  name : ∃ t, vs[1]? = some (.str fd.qualname t)
  fileIs : vs[2]? = some (.str file tf)
  same : ((pw.main.file : Str) == file) = true
  par : (fd.params.posonlyargs ++ fd.params.args).head? = some ar
  self : ar.arg = selfS
  sk : (fScope st).kind = .function
  sc : (fScope st).isCoroutine = false
  sg : (fScope st).isGenerator = false
  nc : ∀ x ∈ (fScope st).names, x.2 ≠ .cell
  lo : ∀ x ∈ ps, (fScope st).names.lookup x = some .local
  fr : (fScope st).names.lookup clsS = some .free
  su : (fScope st).names.lookup (Str.ofString "super") = some .globalImplicit
section
variable {c : Cx} {S : Sto} {n : Nat} {st : Stmt} {ps : List Str} {f : Addr} {fd : FuncData} {cc : Addr} {vs : Array Value} {file : Str} {tf : Tok} {ar : Arg} {A : Around} {Q : Value → Shared → Prop}
theorem clo_call (U : CloAt c st ps f fd cc vs file tf ar) {a : St c S} {us ws : List Value} (room : Room (n + 1) A) (hbind : ∀ (A : Around) (Q : List (Str × Value) → Shared → Prop), Q (ps.zip ws) a.s → wpAny (model pw c.w) A (bindArgs fd ⟨us, []⟩) Q noE a.s)
    (h : ∀ (b : St c S) env, env = callEnv fd a.s.heap.objs.size f → b.s.heap.Ns a.s.heap.objs.size (fun x => (ps.zip ws).reverse.lookup x) → To [] a b → (∀ z o, a.s.heap.get? z = some o → b.s.heap.get? z = some o) → (a.s.heap.objs.size ∈ b.wl ∧ a.s.heap.objs.size ∉ gad b.G) → (b.s.gens = a.s.gens ∧ b.s.drawn = a.s.drawn ∧ b.s.os = a.s.os) →
      PySem.wpAt (model pw c.w) (A.deeper env) (.func (fBody st) env) (execs (fBody st) env) (fun f s' => Q (match f with | .ret v => v | _ => .none) s') noE b.s) :
    wpAny (model pw c.w) A (call (.ref f) us) Q noE a.s := by
  obtain ⟨o, ho, hd⟩ := U.obj
  obtain ⟨o', k2, k3⟩ := U.codeO
  obtain ⟨t', k4⟩ := U.name
  refine wpAny_call (codeAny_call_function room.limit (a.good.kin f o ho) hd (by rw [U.scope]; exact U.sc) (by rw [U.scope]; exact U.sg) U.body ⟨cc, o', vs, t', U.code, a.good.kin _ _ k2, k3, k4⟩ (wpAny_mono (hbind A.in1 _ ?_) (fun _ _ x => x) fun _ _ x => x.elim))
  refine wpAny_newFunctionEnv (by rw [U.scope]; exact U.nc) (by rw [U.scope]; exact fun x m => U.lo _ (List.of_mem_zip (a := x.1) (b := x.2) m).1) (fun h₀ hns₀ hsb₀ => ⟨a.good.lim.fresh _ hsb₀, ks_codeAny_funcAt ?_⟩) (by rw [U.scope]; exact U.sk)
  have k : ∀ b o, a.s.heap.get? b = some o → h₀.get? b = some o := fun b o e => hsb₀.extBut b o (Nat.ne_of_lt (Heap.lt_size e)) (Heap.get?_push_of_some _ e)
  have hz : ∀ z ∈ [a.s.heap.objs.size], a.s.heap.objs.size ≤ z ∧ ∃ o, h₀.get? z = some o := all_c ⟨Nat.le_refl _, let ⟨o, _, _, e, _⟩ := hns₀; ⟨o, e⟩⟩ all_n
  exact ks_wpAt_mono (h (a.adopt [a.s.heap.objs.size] h₀ _ k hz) _ rfl hns₀ a.adopt_to k ⟨.head _, fun m => (a.good.fresh (Nat.le_refl _)).2.2.2 (a.good.own _ m)⟩ ⟨rfl, rfl, rfl⟩) (fun fl s' hq => hq) fun _ _ z => z.elim
theorem glob_super (c : Cx) : Glob c (Str.ofString "super") (.type "super") := glob_boot (by kernel_rfl) (by kernel_rfl)
theorem acc_opq (c : Cx) : peek (zK c.w.params) ⟨pw, c.w.params⟩ (isSubtype (.ref 94) (.ref 94)) = some true := by kernel_rfl
theorem loadGlobalName {s : Shared} {env : Env} {x : Str} {v : Value} (hk : env.scope.kind = .function) (hx : env.kindOf x = some .globalImplicit) (h3 : env.globals = 3) (h0 : env.builtins = 0) (K : (zK c.w.params).In s.heap) (G : Glob c x v) (h : Q v s) (hd : (x == "__debug__") = false) : wpAny (model pw c.w) A (loadName env x) Q noE s := by
  have t : ∀ pos, wpAny (model pw c.w) A (do standAt pos; loadName env x) Q noE s := fun pos => by
    have := Calls.Name_function_global (M := model pw c.w) (A := A) (E := noE) (s := s) (pos := pos) hk hx (G A env s Q h3 h0 K h) hd
    rw [arm_eval_Name, if_neg (by rw [hd]; exact Bool.false_ne_true)] at this
    exact this
  exact fun Γ p st => t p Γ p st
theorem CloAt.kind (U : CloAt c st ps f fd cc vs file tf ar) {env : Env} {L : Addr} (henv : env = callEnv fd L f) (y : Str) : env.kindOf y = (fScope st).names.lookup y := by
  subst henv
  show fd.scope.names.lookup y = _
  rw [U.scope]
theorem CloAt.kn (U : CloAt c st ps f fd cc vs file tf ar) {env : Env} {L : Addr} (henv : env = callEnv fd L f) : env.scope.kind = .function := by
  subst henv
  show fd.scope.kind = _
  rw [U.scope]; exact U.sk
theorem CloAt.self_ (U : CloAt c st ps f fd cc vs file tf ar) {env : Env} {L : Addr} (henv : env = callEnv fd L f) {s : Shared} {m : Str → Option Value} {v : Value} {x : Str} (hx : x ∈ ps) (hns : s.heap.Ns L m) (hm : m x = some v) {E : Value → Shared → Prop} (h : Q v s) : wpAny (model pw c.w) A (loadName env x) Q E s :=
  wpAny_loadName_local (U.kn henv) ((U.kind henv _).trans (U.lo _ hx)) (by subst henv; exact hns) hm h
theorem CloAt.fm (U : CloAt c st [selfS] f fd cc vs file tf ar) {env : Env} {L : Addr} (henv : env = callEnv fd L f) {b : St c S} {u : Value} {v : Val} (hns : b.s.heap.Ns L (fun x => ([selfS].zip [u]).reverse.lookup x)) (hL : L ∈ b.wl ∧ L ∉ gad b.G) (hu : b.vv u v) : Fm [(selfS, .lo)] env b (put selfS v emp) := by
  have kx := U.kind henv
  have kn := U.kn henv
  have gE : env.globals = 3 := by rw [henv]; exact U.gl
  have bE : env.builtins = 0 := by rw [henv]; exact U.bu
  have cE : env.cells = [(clsS, 18)] := by rw [henv]; exact U.clo
  have lE : env.locals = L := by rw [henv]; rfl
  have oE : own [(selfS, .lo)] env = [L] := by unfold own; rw [cE, lE]; rfl
  have one : ∀ {x : Str} {q : EK}, ([(selfS, .lo)] : List (Str × EK)).lookup x = some q → x = selfS ∧ q = .lo := fun {x q} e => by
    rw [List.lookup_cons] at e
    cases hb : x == selfS with
    | true => rw [hb] at e; exact ⟨eq_of_beq hb, (Option.some.inj e).symm⟩
    | false => rw [hb] at e; cases e
  rw [← lE] at hns
  exact { kind := kn, globals := gE, builtins := bE, mem := by rw [oE]; exact all_c hL.1 all_n, nd := by rw [oE]; exact List.pairwise_singleton _ _, apart := by rw [oE]; exact all_c hL.2 all_n, lo := fun x q => by rw [(one q).1]; exact (kx _).trans (U.lo _ (.head _)), ce := fun x q => (nomatch (one q).2), gl := fun x q => (nomatch (one q).2), ns := ⟨_, hns, fun x w q e => by
    obtain ⟨rfl, _⟩ := one q
    rw [put_same] at e; cases e
    exact ⟨u, rfl, hu⟩⟩, cl := fun x q => (nomatch (one q).2) }
set_option maxHeartbeats 1000000 in
theorem sup_eval (U : CloAt c st ps f fd cc vs file tf ar) {a L dx : Addr} {s : Shared} {env : Env} {body : List Stmt} {m : Str → Option Value} {us : List Value} {k : Nat} {id ty bt : String} {bi : Builtin} {name : Str} {p0 p1 ap pos : Pos} (henv : env = callEnv fd L f)
    (hns : s.heap.Ns L m) (hm : m selfS = some (.ref a)) (hself : selfS ∈ ps) (K : (zK c.w.params).In s.heap) (ho : s.heap.get? a = some (accObj dx us k)) (ha : a ≠ 94) (b : Bnd id ty bt) (ck : ChkOk id) (hb : entryFor table id = some bi)
    (hf : alongIn (zK c.w.params) name [.type "list", .type "object"] = some (some (.builtin id))) (hn : (name == ("__class__" : Str)) = false) (hp : (ap.endLine == pos.line) = true)
    (h : ∀ h' tk, (∀ b o, s.heap.get? b = some o → h'.get? b = some o) → wpAny (model pw c.w) A.in1 (bi ⟨[.ref a], []⟩) (fun fin s' => ∃ v, fin = .done (.ret v) ∧ Q v s') noE { s with heap := h', toks := tk }) :
    PySem.wpAt (model pw c.w) A (.func body env) (eval (.Call (.Attribute (.Call (.Name (Str.ofString "super") p0) [] [] p1) name ap) [] [] pos) env) Q noE s := by
  obtain ⟨of, hof, hd⟩ := U.obj
  obtain ⟨o', k2, k3⟩ := U.codeO
  have gE : env.globals = 3 := by rw [henv]; exact U.gl
  have bE : env.builtins = 0 := by rw [henv]; exact U.bu
  have cE : env.cells = [(clsS, 18)] := by rw [henv]; exact U.clo
  have fE : env.func = some f := by rw [henv]; rfl
  have coE : env.code = .ref cc := by rw [henv]; exact U.code
  have hcell : s.heap.get? 18 = some (o2x18 c.w.params) := K _ _ (by kernel_rfl)
  have h94 : s.heap.get? 94 = some (o2x94 c.w.params) := K _ _ (by kernel_rfl)
  have kx := U.kind henv
  have kn := U.kn henv
  obtain ⟨hp0, g0, d0, tk0, os0⟩ := s
  rw [arm_eval_Call]
  refine PySem.wpAt_bind (ks_wpAt_super_base ((kx _).trans U.su) ((kx _).trans U.fr) hn fE (K _ _ hof) hd U.par coE (K _ _ k2) k3 U.fileIs U.same (by kernel_rfl) ?_)
  refine loadGlobalName kn ((kx _).trans U.su) gE bE K (glob_super c) ⟨rfl, wpAny_loadName_free kn ((kx _).trans U.fr) (c := 18) (by rw [cE]; rfl) ⟨_, hcell, rfl⟩ ?_⟩ rfl
  rw [U.self]
  refine U.self_ henv hself hns hm (ks_wpAny_isType_cls h94 rfl ⟨rfl, ks_wpAny_call_super h94 rfl ho rfl (fun cd q => nomatch q) (Looks.of_peek K (acc_opq c)) fun h1 hso k1' => ?_⟩)
  have K1 : (zK c.w.params).In h1 := fun b' o' e' => k1' _ _ (K b' o' e')
  refine PySem.wpAt_of_wpAny (wpAny_bind (wpAny_standAt (methodCall_few rfl (by decide) hp fun pl => sup_getMethod b hso (k1' _ _ ho) K1 ha hf hn ?_)))
  exact sup_call b ck hb (Heap.get?_push_at rfl rfl) (Heap.get?_push_of_some _ (k1' _ _ ho)) (fun b' o' e' => Heap.get?_push_of_some _ (K1 b' o' e')) (h _ _ fun b' o' e' => Heap.get?_push_of_some _ (k1' _ _ e'))
end
theorem m_part_count (c : Cx) : ∃ cc vs file tf ar, CloAt c (cls 2 8) [selfS] 91 (fdOf (o2x91 c.w.params)) cc vs file tf ar :=
  ⟨90, _, _, _, _, ⟨o2x91 c.w.params, by kernel_rfl, rfl⟩, rfl, rfl, rfl, rfl, rfl, rfl, ⟨o2x90 c.w.params, by kernel_rfl, rfl⟩, ⟨_, rfl⟩, rfl, by decide +kernel, rfl, rfl, rfl, rfl, rfl, by decide +kernel, by decide +kernel, by decide +kernel, by decide +kernel⟩
theorem m_pop (c : Cx) : ∃ cc vs file tf ar, CloAt c (cls 2 3) [selfS] 54 (fdOf (o2x54 c.w.params)) cc vs file tf ar :=
  ⟨53, _, _, _, _, ⟨o2x54 c.w.params, by kernel_rfl, rfl⟩, rfl, rfl, rfl, rfl, rfl, rfl, ⟨o2x53 c.w.params, by kernel_rfl, rfl⟩, ⟨_, rfl⟩, rfl, by decide +kernel, rfl, rfl, rfl, rfl, rfl, by decide +kernel, by decide +kernel, by decide +kernel, by decide +kernel⟩
theorem m_init (c : Cx) : ∃ cc vs file tf ar, CloAt c (cls 2 0) [selfS, Str.ofString "initial_size"] 31 (fdOf (o2x31 c.w.params)) cc vs file tf ar :=
  ⟨30, _, _, _, _, ⟨o2x31 c.w.params, by kernel_rfl, rfl⟩, rfl, rfl, rfl, rfl, rfl, rfl, ⟨o2x30 c.w.params, by kernel_rfl, rfl⟩, ⟨_, rfl⟩, rfl, by decide +kernel, rfl, rfl, rfl, rfl, rfl, by decide +kernel, by decide +kernel, by decide +kernel, by decide +kernel⟩
section
variable {c : Cx} {S : Sto} {i k0 : Nat} {l : List D} {k : Int}
theorem OpOk.less {n m : Nat} {t : List Value → Sem Value} {vs : List Val} {z : Val × Sto} (h : OpOk c n t vs S z) (hm : n ≤ m) : OpOk c m t vs S z := fun A a us Q room => h A a us Q (room.less hm)
theorem acc_no94 {h : Heap} (K : (zK c.w.params).In h) {a dx : Addr} {vs : List Value} {n : Nat} (ho : h.get? a = some (accObj dx vs n)) : a ≠ 94 := fun q => by
  have := K _ _ (show (zK c.w.params).lookup 94 = some (o2x94 c.w.params) by kernel_rfl)
  rw [← q, ho] at this
  cases this
theorem partc_ok (eS : S[i]? = some (.acc l k)) : OpOk c (k0 + 1) (fun us => call (.ref 91) us) [.ref i] S (.d (.int (l.length : Nat)), S) := op1 fun A a u Q room hu h => by
  obtain ⟨cc, ws, file, tf, ar, U⟩ := m_part_count c
  refine a.ac hu eS fun {o dx vs n t t'} eo ed ho hd lv => ?_
  refine clo_call U room (ws := [.ref o.a]) (fun A Q hq => w_eq (by kernel_rfl) (wpAny_pure hq)) fun b env henv hns to hk _ _ => ?_
  refine ks_wpAt_execs_cons (ks_wpAt_Return_some ?_)
  refine sup_eval U henv hns rfl (.head _) b.good.kin (hk _ _ ho) (acc_no94 a.good.kin ho) bnd_len chk_len entry_list_len (by kernel_rfl) (by decide) rfl fun h' tk k' => ?_
  refine wpAny_bind (m := pure (Value.ref o.a, [])) (wpAny_pure (wpAny_bind (wpAny_bind (wpAny_load (k' _ _ (hk _ _ ho)) (wpAny_pure (wpAny_bind (wpAny_mkInt (wpAny_pure ⟨_, rfl, ?_⟩))))))))
  have := h (.int (l.length : Nat) tk) (b.keep h' (tk + 1) k') (to.trans b.keep_to) (.int _ _)
  rwa [← lv.length] at this
theorem me_part_count (eS : S[i]? = some (.acc l k)) : ME c k0 (Str.ofString "part_count") (.ref i) [] S (.d (.int (l.length : Nat)), S) :=
  me_f (f := 91) (o := o2x91 c.w.params) (by kernel_rfl) (by kernel_rfl) (by decide +kernel) (by kernel_rfl) rfl eS ((partc_ok (k0 := 0) eS).less (Nat.le_trans (by decide) (Nat.le_add_right 12 k0)))
theorem erase_last {vs : List Value} {x : Value} : (vs ++ [x]).toArray.eraseIdxIfInBounds vs.length = vs.toArray := by simp [List.eraseIdx_append_of_length_le]
theorem pop_bare {A : Around} {E : Value → Shared → Prop} {s : Shared} {a dx : Addr} {vs : List Value} {n : Nat} {x : Value} {Q : Fin → Shared → Prop} (ho : s.heap.get? a = some (accObj dx (vs ++ [x]) n)) (hl : vs.length < sizeLine)
    (h : Q (.done (.ret x)) { s with heap := s.heap.update a (Obj.mapSeq fun l => l.eraseIdxIfInBounds vs.length) }) : wpAny (model pw c.w) A (Builtin.«list.pop» ⟨[.ref a], []⟩) Q E s := by
  have e3 : (vs ++ [x]).toArray.size = vs.length + 1 := List.length_append
  have e1 : ((vs ++ [x]).toArray).isEmpty = false := decide_eq_false (by rw [e3]; exact Nat.succ_ne_zero _)
  have e2 : ((seqIndex? (-1) (vs ++ [x]).toArray.size).bind fun k => ((vs ++ [x]).toArray)[k]?.map (k, ·)) = some (vs.length, x) := by
    have : seqIndex? (-1) (vs ++ [x]).toArray.size = some vs.length := by
      rw [e3]
      unfold seqIndex?
      simp
      omega
    rw [this, Option.bind_some, List.getElem?_toArray, List.getElem?_concat_length]; rfl
  refine wpAny_bind (m := pure (Value.ref a, [])) (wpAny_pure (wpAny_bind (wpAny_pure ?_)))
  refine wpAny_bind (m := Builtin.List.listItems (.ref a)) (wpAny_listItems ho rfl ?_)
  refine w_neg (by rw [e1]; exact Bool.false_ne_true) ?_
  show wpAny _ _ (match ((seqIndex? (-1) (vs ++ [x]).toArray.size).bind fun k => ((vs ++ [x]).toArray)[k]?.map (k, ·)) with
    | some (k, x) => (do updateSeq a (·.eraseIdxIfInBounds k); ret x)
    | none => _) _ _ _
  rw [e2]
  refine wpAny_bind (wpAny_updateSeq ho rfl (wpAny_pure h) (by rw [e3]; exact hl) (by rw [erase_last]; exact Nat.le_succ_of_le (Nat.le_of_lt hl)))
theorem i_pos {c : Prop} [Decidable c] {P Q : Prop} (h : c) (k : P) : if c then P else Q := by rw [if_pos h]; exact k
theorem i_neg {c : Prop} [Decidable c] {P Q : Prop} (h : ¬ c) (k : Q) : if c then P else Q := by rw [if_neg h]; exact k
theorem vs_snoc {wl : List Addr} {h : Heap} {x : D} {l0 : List D} : ∀ {vs : List Value}, Vs wl h vs (l0 ++ [x]) → ∃ vs0 u, vs = vs0 ++ [u] ∧ Vs wl h vs0 l0 ∧ V wl h u x := by
  induction l0 with
  | nil => intro vs hv; obtain ⟨u, rfl, h1⟩ := hv.one_; exact ⟨[], u, rfl, .nil, h1⟩
  | cons d l0 ih =>
    intro vs hv
    obtain ⟨u, us, rfl, h1, h2⟩ := hv.cons_
    obtain ⟨vs0, w, rfl, h3, h4⟩ := ih h2
    exact ⟨u :: vs0, w, rfl, .cons h1 h3, h4⟩
def emptyD : D := .tuple [.str emptyS, .str emptyS]
def popR (l : List D) : D := l.getLastD emptyD
theorem pop_test {f : Fr} (hks : f.ks = [(selfS, .lo)]) {p1 p2 p3 p4 p5 : Pos} {kk : Nat} (hp : (p2.endLine == p3.line) = true) (eS : S[i]? = some (.acc l k)) : TV f (.Compare (.Call (.Attribute (.Name selfS p1) (Str.ofString "part_count") p2) [] [] p3) [.Eq] [.Constant (.int 0) kk p4] p5) (put selfS (.ref i) emp) S (((l.length : Nat) : Int) == 0, S) :=
  t_cmp (e_me rfl (Nat.le_of_ble_eq_true rfl) hp (e_name (by rw [hks]; kernel_rfl) rfl) v_nil (fun _ h => h) (me_part_count eS)) (e_const rfl) rfl rfl
theorem pop_nil (eS : S[i]? = some (.acc [] k)) : OpOk c (12 + k0 + 1) (fun us => call (.ref 54) us) [.ref i] S (.d emptyD, S) := op1 fun A a u Q room hu h => by
  obtain ⟨cc, ws, file, tf, ar, U⟩ := m_pop c
  refine a.ac hu eS fun {o dx vs n t t'} eo ed ho hd lv => ?_
  refine clo_call U room (ws := [.ref o.a]) (fun A Q hq => w_eq (by kernel_rfl) (wpAny_pure hq)) fun b env henv hns to hk hL _ => ?_
  have P : Pre ⟨c, k0, [(selfS, .lo)]⟩ env (A.deeper env) b (put selfS (.ref i) emp) := ⟨room.deeper, U.fm henv hns hL (to.vv (⟨o, eo, rfl⟩ : a.vv (.ref o.a) (.ref i)))⟩
  refine ks_wpAt_execs_cons (ks_wpAt_If (PySem.wpAt_of_wpAny (pop_test (f := ⟨c, k0, [(selfS, .lo)]⟩) rfl rfl eS env _ b _ P fun b2 t2 => i_pos rfl (PySem.wpAt_of_wpAny ?_))))
  exact wpAny_execs_cons (wpAny_Return_some (e_tuple (f := ⟨c, k0, [(selfS, .lo)]⟩) (v_cons rfl (e_const rfl) (v_cons rfl (e_const rfl) v_nil)) rfl (Nat.le_of_ble_eq_true rfl) env _ b2 _ (P.to t2) fun w d t3 hw => h w d (to.trans (t2.trans t3)) hw))
theorem pop_snoc {x : D} (eS : S[i]? = some (.acc (l ++ [x]) k)) (hl : l.length < sizeLine) : OpOk c (12 + k0 + 1) (fun us => call (.ref 54) us) [.ref i] S (.d x, S.set i (.acc l k)) := op1 fun A a u Q room hu h => by
  obtain ⟨cc, ws, file, tf, ar, U⟩ := m_pop c
  refine a.ac hu eS fun {o dx vs n t t'} eo ed ho hd lv => ?_
  refine clo_call U room (ws := [.ref o.a]) (fun A Q hq => w_eq (by kernel_rfl) (wpAny_pure hq)) fun b env henv hns to hk hL _ => ?_
  have P : Pre ⟨c, k0, [(selfS, .lo)]⟩ env (A.deeper env) b (put selfS (.ref i) emp) := ⟨room.deeper, U.fm henv hns hL (to.vv (⟨o, eo, rfl⟩ : a.vv (.ref o.a) (.ref i)))⟩
  refine ks_wpAt_execs_cons (ks_wpAt_If (PySem.wpAt_of_wpAny (pop_test (f := ⟨c, k0, [(selfS, .lo)]⟩) rfl rfl eS env _ b _ P fun b2 t2 => i_neg ?_ (PySem.wpAt_of_wpAny (wpAny_execs_nil (ks_wpAt_execs_cons (ks_wpAt_Return_some ?_)))))))
  · rw [List.length_append]; exact fun q => absurd (Int.ofNat.inj (eq_of_beq q)) (Nat.succ_ne_zero _)
  obtain ⟨m, hn2, hm2⟩ := (P.to t2).fm.ns
  obtain ⟨v, hv, hvv⟩ := hm2 selfS _ (by kernel_rfl) rfl
  have t3 := to.trans t2
  clear hm2 P hns to hk hL lv ho hd eo ed
  revert hv
  refine b2.ac hvv eS fun {o dx vs n t t'} eo ed ho hd lv hv => ?_
  obtain ⟨vs0, u, rfl, lv0, hu⟩ := vs_snoc lv
  refine sup_eval U henv (by subst henv; exact hn2) hv (.head _) b2.good.kin ho (acc_no94 b2.good.kin ho) bnd_pop chk_pop PySem.F.entry_list_pop (by kernel_rfl) (by decide) rfl fun h' tk k' => ?_
  refine pop_bare (k' _ _ ho) (by rw [lv0.length]; exact hl) ⟨_, rfl, ?_⟩
  have t4 := b2.keep_to (h' := h') (tk := tk) (k := k')
  obtain ⟨d, e, t5⟩ := (b2.keep h' tk k').accSet (tk := tk) (f := fun l => l.eraseIdxIfInBounds vs0.length) (l' := l) (vs' := vs0) eS eo ed (k' _ _ ho) (k' _ _ hd) erase_last (t4.vs lv0)
  have := h u d (t3.trans (t4.trans t5)) (t5.v (t4.v hu))
  rw [e] at this; exact this
end
abbrev isizeS : Str := Str.ofString "initial_size"
section
variable {c : Cx} {A : Around} {h : Heap} {g : Array GenState} {d : Drawn} {t : Nat} {os : OsState}
theorem new_acc {R : Result → Shared → Prop} {us : List Value} (hck : peek (zK c.w.params) ⟨pw, c.w.params⟩ (checkBuiltinCall "list.__new__" ⟨.ref 94 :: us, []⟩) = some ()) (K : (zK c.w.params).In h)
    (hq : R (.ok (.ret (.ref (h.objs.size + 1)))) ⟨(h.push emptyDict).push (accObj h.objs.size [] 0), g, d, t, os⟩) :
    codeAny (model pw c.w) A (.call (.builtin "list.__new__") ⟨.ref 94 :: us, []⟩) R ⟨h, g, d, t, os⟩ := by
  have h94 : h.get? 94 = some (o2x94 c.w.params) := K _ _ (by kernel_rfl)
  have hsub : peek (zK c.w.params) ⟨pw, c.w.params⟩ (isSubtype (.ref 94) (.type "list")) = some true := by kernel_rfl
  refine codeAny_of_tree (wpAny_bind (Looks.here (Looks.of_peek K hck) (wpAny_pure ⟨plainId_quiet F.plain_list_new _, codeAny_builtin_stack F.entry_list_new rfl fun p st => ?_⟩)))
  rw [Around.under_plainId F.plain_list_new _]
  dsimp only
  rw [owner_list_new]
  refine wpAny_bind (ks_wpAny_isType_cls h94 rfl (w_neg Bool.false_ne_true (wpAny_bind (Looks.here (Looks.of_peek K hsub) (w_neg Bool.false_ne_true (wpAny_bind (wpAny_pure ?_)))))))
  refine w_neg Bool.false_ne_true (wpAny_bind (m := newDict) (wpAny_newObj_type (wpAny_bind ?_) (by size_fits)))
  show wpAny _ _ (newObjAsIs _ _ _) _ _ _
  refine wpAny_bind (wpAny_alloc (wpAny_bind (wpAny_bind (wpAny_load (Heap.get?_push_of_some _ (Heap.get?_push_of_some _ h94)) (wpAny_pure ?_)))))
  refine wpAny_pure (wpAny_pure ?_)
  show R _ _
  rw [Heap.size_push]
  exact hq
theorem new_accS {S : Sto} {a : St c S} {R : Result → Shared → Prop} {us : List Value} (hck : peek (zK c.w.params) ⟨pw, c.w.params⟩ (checkBuiltinCall "list.__new__" ⟨.ref 94 :: us, []⟩) = some ())
    (hq : ∀ b : St c S, To [] a b → b.s.heap.get? (a.s.heap.objs.size + 1) = some (accObj a.s.heap.objs.size [] 0) → b.s.heap.get? a.s.heap.objs.size = some emptyDict → (∀ z o, a.s.heap.get? z = some o → b.s.heap.get? z = some o) → (b.s.gens = a.s.gens ∧ b.s.drawn = a.s.drawn ∧ b.s.os = a.s.os) → R (.ok (.ret (.ref (a.s.heap.objs.size + 1)))) b.s) : codeAny (model pw c.w) A (.call (.builtin "list.__new__") ⟨.ref 94 :: us, []⟩) R a.s := by
  have e1 : (a.s.heap.push emptyDict).objs.size = a.s.heap.objs.size + 1 := Heap.size_push ..
  exact new_acc hck a.good.kin (hq ((a.push emptyDict a.s.toks).push (accObj a.s.heap.objs.size [] 0) a.s.toks) (a.push_to.trans (St.push_to _)) (by rw [← e1]; exact Heap.get?_push_size _ rfl) (Heap.get?_push_of_some _ (Heap.get?_push_size _ rfl)) (fun z o e => Heap.get?_push_of_some _ (Heap.get?_push_of_some _ e)) ⟨rfl, rfl, rfl⟩)
theorem init_bare {A : Around} {E : Value → Shared → Prop} {s : Shared} {a dx : Addr} {n : Nat} {Q : Fin → Shared → Prop} (ho : s.heap.get? a = some (accObj dx [] n))
    (hq : Q (.done (.ret .none)) { s with heap := s.heap.update a (Obj.mapSeq fun _ => #[]) }) : wpAny (model pw c.w) A (Builtin.«list.__init__» ⟨[.ref a], []⟩) Q E s :=
  wpAny_bind (m := Builtin.List.listItems (.ref a)) (wpAny_listItems ho rfl (wpAny_bind (m := updateSeq a fun _ => #[]) (wpAny_updateSeq ho rfl (wpAny_bind (wpAny_letGo (wpAny_pure hq))) (Nat.zero_le _) (Nat.zero_le _))))
end
section
variable {c : Cx} {S : Sto} {n : Nat} {A : Around} {us : List Value} {k : Int} {Q : Value → Shared → Prop}
def iniArgs (us : List Value) (k : Int) : Prop := (us = [] ∧ k = 0) ∨ ∃ t, us = [.int k t]
theorem ini_binds {s : Shared} {a : Addr} (K : (zK c.w.params).In s.heap) (hu : iniArgs us k) : ∃ tok, ∀ (A : Around) (Q : List (Str × Value) → Shared → Prop), Q ([selfS, isizeS].zip [.ref a, .int k tok]) s → wpAny (model pw c.w) A (bindArgs (fdOf (o2x31 c.w.params)) ⟨.ref a :: us, []⟩) Q noE s := by
  rcases hu with ⟨rfl, rfl⟩ | ⟨t, rfl⟩
  · exact ⟨203, fun A Q hq => Looks.here (Looks.of_peek K (r := [selfS, isizeS].zip [.ref a, .int 0 203]) (by kernel_rfl)) hq⟩
  · exact ⟨t, fun A Q hq => Looks.here (Looks.of_peek K (r := [selfS, isizeS].zip [.ref a, .int k t]) (by kernel_rfl)) hq⟩
set_option maxHeartbeats 1000000 in
theorem init_meth {b : St c S} {a dx : Addr} (room : Room (n + 1) A) (ho : b.s.heap.get? a = some (accObj dx [] 0)) (hd : b.s.heap.Ns1 dx (fun _ => none)) (hda : a ≠ dx) (hx : c.h₀.get? dx = none) (hu : iniArgs us k)
    (hq : ∀ h' tk tok, h'.Ns1 dx (fun x => if x = iniS then some (.int k tok) else none) → h'.get? a = some (accObj dx [] 0) → (∀ z ob, z ≠ a → z ≠ dx → b.s.heap.get? z = some ob → h'.get? z = some ob) → Q .none { b.s with heap := h', toks := tk }) :
    wpAny (model pw c.w) A (call (.ref 31) (.ref a :: us)) Q noE b.s := by
  obtain ⟨cc, ws, file, tf, ar, U⟩ := m_init c
  obtain ⟨tok, hb⟩ := ini_binds (a := a) b.good.kin hu
  refine clo_call U (ws := [.ref a, .int k tok]) room hb fun b1 env henv hns to hk _ hs => ?_
  have hd1 : b1.s.heap.Ns1 dx (fun _ => none) := let ⟨o, es, ep, e, r⟩ := hd; ⟨o, es, ep, hk _ _ e, r⟩
  have hL : b.s.heap.objs.size ≠ dx := fun q => let ⟨_, _, _, e, _⟩ := hd; Nat.lt_irrefl _ (q ▸ Heap.lt_size e)
  refine ks_wpAt_execs_cons (ks_wpAt_Assign_Attr (PySem.wpAt_of_wpAny ?_) (by subst henv; rfl))
  refine wpAny_Name (U.self_ henv (x := isizeS) (.tail _ (.head _)) hns (v := .int k tok) (by kernel_rfl) (wpAny_Name (U.self_ henv (x := selfS) (.head _) hns (v := .ref a) (by kernel_rfl) ?_) rfl)) rfl
  refine acc_setAttr (hk _ _ ho) b1.good.kin (fun _ _ => rfl) hd1 fun h1 tk1 hn1 hs1 => ?_
  have ka : ∀ z ob, z ≠ dx → b1.s.heap.get? z = some ob → h1.get? z = some ob := fun z ob q e => (hs1.2 z q).trans e
  have ho1 := ka _ _ hda (hk _ _ ho)
  have K1 : (zK c.w.params).In h1 := fun z o e => ka _ _ (fun q => no_some (c.K _ _ e) (q ▸ hx)) (b1.good.kin _ _ e)
  refine ks_wpAt_execs_cons (ks_wpAt_Expr_any ?_ (by subst henv; rfl) (by subst henv; rfl))
  refine sup_eval U henv (ns_at (ka _ · hL) hns) (by kernel_rfl) (.head _) K1 ho1 (acc_no94 K1 ho1) bnd_ini chk_ini PySem.F.entry_list_init (by kernel_rfl) (by decide) rfl fun h' tk k' => ?_
  refine init_bare (k' _ _ ho1) ⟨_, rfl, PySem.wpAt_of_wpAny (wpAny_execs_nil ?_)⟩
  have sb : Heap.SameBut a h' (h'.update a (Obj.mapSeq fun _ => #[])) := Heap.SameBut.update ..
  show Q .none (Shared.mk _ b1.s.gens b1.s.drawn _ b1.s.os)
  rw [hs.1, hs.2.1, hs.2.2]
  exact hq _ _ tok (let ⟨o, es, ep, e, r⟩ := hn1; ⟨o, es, ep, (sb.2 _ (Ne.symm hda)).trans (k' _ _ e), r⟩) (Heap.get?_update_self _ (k' _ _ ho1) rfl) fun z ob qa qd e => (sb.2 z qa).trans (k' _ _ (ka _ _ qd (hk _ _ e)))
theorem room_under (r : Room (n + 1) A) : Room n (A.under (.builtin "type.__call__" ⟨.ref 94 :: us, []⟩)) := by
  refine ⟨r.hd, ?_, ?_⟩
  · show A.depth + (Code.builtin "type.__call__" ⟨.ref 94 :: us, []⟩).weight + n ≤ 900
    rw [show (Code.builtin "type.__call__" ⟨.ref 94 :: us, []⟩).weight = 1 by kernel_rfl, Nat.add_right_comm]; exact r.depth
  · show A.units + (Code.builtin "type.__call__" ⟨.ref 94 :: us, []⟩).cUnits + 16 * n ≤ 9800
    rw [show (Code.builtin "type.__call__" ⟨.ref 94 :: us, []⟩).cUnits = 1 by kernel_rfl]; exact r.in1.units
theorem find_init (c : Cx) : findIn (zK c.w.params) (.ref 94) (Str.ofString "__init__") = some (some (.ref 31)) := by kernel_rfl
set_option maxHeartbeats 1000000 in
theorem make_run {a : St c S} (room : Room (n + 3) A) (hu : iniArgs us k) (hck : peek (zK c.w.params) ⟨pw, c.w.params⟩ (checkBuiltinCall "list.__new__" ⟨.ref 94 :: us, []⟩) = some ())
    (h : ∀ (b : St c (S ++ [.acc [] k])), To [] a b → b.vv (.ref (a.s.heap.objs.size + 1)) (.ref S.length) → Q (.ref (a.s.heap.objs.size + 1)) b.s) : wpAny (model pw c.w) A (call (.ref 94) us) Q noE a.s := by
  have K := a.good.kin
  have h94 : a.s.heap.get? 94 = some (o2x94 c.w.params) := K _ _ (by kernel_rfl)
  have hm : Looks (model pw c.w) a.s.heap (mroOf (.ref 94)) [.ref 94, .type "list", .type "object"] := Looks.of_peek K (acc_mro c)
  have made : Looks (model pw c.w) a.s.heap (Bind.madeBy (.ref 94)) (some "list.__new__") := Looks.of_peek K (by kernel_rfl)
  have csp : Looks (model pw c.w) a.s.heap (specialOf (.ref 94) "__call__") (some (.builtin "type.__call__")) := Looks.of_peek K (by kernel_rfl)
  have ity : Looks (model pw c.w) a.s.heap (isInstance (.ref 94) (.type "type")) true := Looks.of_peek K (by kernel_rfl)
  refine wpAny_call (codeAny_of_tree ?_)
  show wpAny _ _ (callAny (.ref 94) _) _ _ _
  refine nd_load h94 ?_
  show wpAny _ _ (callAny.viaDunder (.ref 94) _) _ _ _
  unfold callAny.viaDunder
  refine wpAny_bind (Looks.here csp ?_)
  dsimp only
  rw [tc_bind]
  refine wpAny_bind (wpAny_pure (wpAny_bind (wpAny_pure (wpAny_pure (a := Fin.again (.call (.builtin "type.__call__") ⟨.ref 94 :: us, []⟩)) (And.intro rfl ?_)))))
  refine codeAny_call_builtin_at (Code.quiet_builtin _ (by decide +kernel)) entry_typeCall (check_slot tc_kind tc_split ity (tc_args _ _ _) ?_)
  refine wpAny_bind (hm.here (wpAny_bind (made.here (wpAny_bind (wpAny_pure (wpAny_bind (wpAny_holding (wpAny_call (new_accS hck fun b to ho hd hk hs => ?_)))))))))
  refine wpAny_bind (wpAny_bind (acc_type ho (Looks.here (Looks.of_peek b.good.kin (acc_opq c)) (w_neg Bool.false_ne_true (wpAny_bind (wpAny_holding (acc_callSpecialF ho b.good.kin (find_init c) (by kernel_rfl) ?_)))))))
  refine init_meth (room_under room) ho (Heap.Ns1.of_empty ⟨_, #[], _, hd, rfl, (fun e he => nomatch he), fun _ => rfl⟩) (Nat.succ_ne_self _) (a.good.fresh (Nat.le_refl _)).2.1 hu fun h' tk' tok hn1 ho1 hk1 => w_neg (by decide) (wpAny_pure ?_)
  obtain ⟨ob, es, ep, q1, q2, q3, q4, q5⟩ := hn1
  have k2 : ∀ z o, a.s.heap.get? z = some o → h'.get? z = some o := fun z o e => hk1 z o (Nat.ne_of_lt (Nat.lt_succ_of_lt (Heap.lt_size e))) (Nat.ne_of_lt (Heap.lt_size e)) (hk z o e)
  have hn : ∀ z ∈ (⟨a.s.heap.objs.size + 1, some a.s.heap.objs.size⟩ : Ho).all, a.s.heap.objs.size ≤ z ∧ ∃ ob, h'.get? z = some ob := all_c ⟨Nat.le_succ _, _, ho1⟩ (all_c ⟨Nat.le_refl _, _, q1⟩ all_n)
  have nd : (⟨a.s.heap.objs.size + 1, some a.s.heap.objs.size⟩ : Ho).all.Nodup := List.nodup_cons.mpr ⟨fun m => Nat.succ_ne_self _ (List.mem_singleton.mp m), List.pairwise_singleton _ _⟩
  have := h (a.grow ⟨a.s.heap.objs.size + 1, some a.s.heap.objs.size⟩ (.acc [] k) h' tk' k2 hn nd fun _ => ⟨_, [], 0, ⟨ob, es, ep, tok, q2, q3, q4, q5⟩, (), rfl, ho1, q1, .nil⟩) a.grow_to ⟨⟨a.s.heap.objs.size + 1, some a.s.heap.objs.size⟩, by
    show (a.G ++ [_])[S.length]? = _
    rw [← a.good.sat.length, List.getElem?_concat_length], rfl⟩
  show Q _ (Shared.mk _ b.s.gens b.s.drawn _ b.s.os)
  rw [hs.1, hs.2.1, hs.2.2]
  exact this
theorem make_ok {vs : List Val} (hv : (vs = [] ∧ k = 0) ∨ vs = [.d (.int k)]) : OpOk c (n + 3) (fun us => call (.ref 94) us) vs S (.ref S.length, S ++ [.acc [] k]) := fun A a us Q room hvv h => by
  rcases hv with ⟨rfl, rfl⟩ | rfl
  · cases hvv.nil_
    exact make_run room (.inl ⟨rfl, rfl⟩) (by kernel_rfl) fun b t hb => h _ b t hb
  · refine hvv.one fun u hu => V.ints hu fun t => make_run room (.inr ⟨_, rfl⟩) (by kernel_rfl) fun b t hb => h _ b t hb
theorem cw_acc (c : Cx) : CW c (.ref 94) := fun A p pos first es env s Q hs h => by
  have hk : peek (zK c.w.params) ⟨pw, c.w.params⟩ (keeperOf (.ref 94)) = some .machine := by kernel_rfl
  have hplain : ((backTo pos (starEach es env)).any (·.1) || ([] : List (Option Str × Sem Value)).any (·.1.isNone)) = false := by rw [noStar_any hs]; rfl
  unfold callWith
  refine wpAny_bind (wpAny_holding (args_ok hs (wpAny_mono h (fun us s1 h1 => ?_) fun _ _ x => x)))
  refine wpAny_bind (wpAny_standAt ?_)
  rw [hplain]
  exact wpAny_bind (Looks.here (Looks.of_peek h1.1 hk) (wpAny_bind (wpAny_mono h1.2 (fun r s₂ hr => wpAny_bind (wpAny_holding (wpAny_point (wpAny_pure hr)))) fun _ _ y => y)))
theorem fn_make {k0 : Nat} {vs : List Val} (hv : (vs = [] ∧ k = 0) ∨ vs = [.d (.int k)]) : FN c k0 (Str.ofString "_Accumulator") vs S (.ref S.length, S ++ [.acc [] k]) :=
  ⟨_, glob_own (by kernel_rfl), cw_acc c, (make_ok (n := 0) hv).less (Nat.le_trans (by decide) (Nat.le_add_right 12 k0))⟩
end
section
variable {c : Cx} {S : Sto} {i k0 : Nat} {k : Int} {ps : List (Str × Str)} {A : Around}
theorem acc_truthy {a : St c S} {u : Value} {Q : Bool → Shared → Prop} (eS : S[i]? = some (.acc (psD ps) k)) (F : Few ps) (hk : 0 ≤ k ∧ k ≤ 1000) (room : Room (12 + k0 + 1 + 1) A) (hu : a.vv u (.ref i)) (h : ∀ b : St c S, To [] a b → Q (accLen k ps != 0) b.s) : wpAny (model pw c.w) A (truthy u) Q noE a.s := by
  have key : wpAny (model pw c.w) A (runValue (.builtin "len" ⟨[u], []⟩)) (fun r s' => ∃ t, ∃ b : St c S, r = .int (accLen k ps) t ∧ s' = b.s ∧ To [] a b) noE a.s := by
    refine wpAny_runValue (codeAny_builtin entry_len ?_)
    rw [Around.under_plainId plain_len _]
    exact wpAny_mono (len_run (k0 := k0) (E := noE) (R := fun fin s' => ∃ t, ∃ b : St c S, fin = .done (.ret (.int (accLen k ps) t)) ∧ s' = b.s ∧ To [] a b) eS F hk room.in1 hu fun t b to => ⟨t, b, rfl, rfl, to⟩) (fun fin s' h' => let ⟨t, b, e1, e2, to⟩ := h'; e1 ▸ ⟨t, b, rfl, e2, to⟩) fun _ _ e => e.elim
  revert key
  refine a.ac hu eS fun {o dx vs n t t'} eo ed ho hd lv key => ?_
  unfold truthy
  refine wpAny_bind (wpAny_bind (acc_special ho a.good.kin (name := Str.ofString "__bool__") (r := none) (by kernel_rfl) (wpAny_pure ?_)))
  refine wpAny_bind (acc_special ho a.good.kin (name := Str.ofString "__len__") (r := some (.ref 61)) (by kernel_rfl) (w_neg Bool.false_ne_true ?_))
  refine wpAny_bind (wpAny_mono key (fun r s' h' => ?_) fun _ _ e => e)
  obtain ⟨t, b, rfl, rfl, to⟩ := h'
  exact wpAny_pure (h b to)
end
section
variable {f : Fr} {e : En} {S S1 : Sto} {i k0 : Nat} {k : Int} {ps : List (Str × Str)} {x : Expr} {p : Pos}
theorem e_notA (eS : S1[i]? = some (.acc (psD ps) k)) (F : Few ps) (hk : 0 ≤ k ∧ k ≤ 1000) (hf : f.k = k0 + 2) (h1 : EV f x e S (.ref i, S1)) : EV f (.UnaryOp .Not x p) e S (.d (.bool !(accLen k ps != 0)), S1) := fun env A a Q P h =>
  wpAny_UnaryOp (h1 env A a _ P fun u b t1 hu => not_value (acc_truthy (k0 := k0) eS F hk (by have := P.room; rwa [hf] at this) hu fun d t2 => h _ d (t1.trans t2) (.bool _)))
theorem me_isspace {c : Cx} {y : Str} {S : Sto} : ME c k0 (Str.ofString "isspace") (.d (.str y)) [] S (.d (.bool (Txt.isspace y)), S) := ⟨.builtin "str.isspace", 3, .str, fun S A a u o oe apos pos env es Q hu hk hs hl hp h => by
  cases hk with
  | str => exact V.strs (P := fun u => (∀ p, wpAny (model pw c.w) A (callWith p (.builtin "str.isspace") [u] (backTo pos (starEach es env)) []) Q noE a.s) → wpAny (model pw c.w) A (methodCall oe (Str.ofString "isspace") apos pos env u (es.length + ([] : List Keyword).length) (backTo pos (starEach es env)) (backToKw pos (keywordEach [] env))) Q noE a.s) hu (fun t h => methodCall_few hs hl hp fun pl => GM.isspace (h pos)) h, cw_builtin c _, op1 fun A a u Q room hu h => V.strs hu fun t => SC.isspace (h _ a (To.refl a) (.bool _))⟩
def onlyV (k : Int) (ps : List (Str × Str)) : Bool := k == 0 && (accLen k ps == 0 || Txt.isspace (ofL (txtL ps)))
theorem only_ex {c : Cx} (eS : S[i]? = some (.acc (psD ps) k)) (F : Few ps) (hk : 0 ≤ k ∧ k ≤ 1000) : EX ⟨c, k0 + 3, ksOf (fScope (cls 2 7))⟩ (fBody (cls 2 7)) (envL ([selfS].zip [.ref i])) S (.ret (.d (.bool (onlyV k ps))), S) := by
  refine x_return (e_bool (e_cmp (w := k == 0) (e_ini (e_name (by kernel_rfl) rfl) eS) (e_const rfl) rfl rfl) rfl ?_)
  unfold onlyV
  cases hk0 : k == 0 with
  | false => exact rfl
  | true =>
    refine e_bool (e_notA (k0 := k0 + 1) eS F hk rfl (e_name (by kernel_rfl) rfl)) rfl ?_
    cases hl : accLen k ps == 0 with
    | true => rw [show (accLen k ps != 0) = false by unfold bne; rw [hl]; rfl]; exact rfl
    | false =>
      rw [show (accLen k ps != 0) = true by unfold bne; rw [hl]; rfl]
      exact e_me rfl (Nat.le_of_ble_eq_true rfl) rfl (e_fn (by kernel_rfl) (v_cons rfl (e_name (by kernel_rfl) rfl) v_nil) (fn_str_acc (k0 := k0) eS F)) v_nil (fun _ h => h) me_isspace
theorem me_only {c : Cx} (eS : S[i]? = some (.acc (psD ps) k)) (F : Few ps) (hk : 0 ≤ k ∧ k ≤ 1000) : ME c (k0 + 4) (Str.ofString "is_onlyws") (.ref i) [] S (.d (.bool (onlyV k ps)), S) :=
  me_f (f := 83) (o := o2x83 c.w.params) (by kernel_rfl) (by kernel_rfl) (by decide +kernel) (by kernel_rfl) rfl eS (user_ok (k := k0 + 3) (m_is_onlyws c) (dvs := []) (fun _ => .nil) (EX.c (only_ex eS F hk)) rfl lv_d0)
end
open Builtin Builtin.ObjectAttr
noncomputable section
abbrev giS : Str := Str.ofString "__getitem__"
theorem find_gi (c : Cx) : findIn (zK c.w.params) (.ref 94) giS = some (some (.builtin "list.__getitem__")) := by kernel_rfl
theorem md_noset : typeLookup (.type "method_descriptor") "__set__" = pure none := by rw [typeLookup_type, builtinLookup_eq_fast]; kernel_rfl
theorem md_nodel : typeLookup (.type "method_descriptor") "__delete__" = pure none := by rw [typeLookup_type, builtinLookup_eq_fast]; kernel_rfl
section
variable {c : Cx} {A : Around} {E : Value → Shared → Prop} {h : Heap} {g : Array GenState} {d : Drawn} {t : Nat} {os : OsState} {a dx : Addr} {vs : List Value} {n : Nat}
theorem gi_body {k : Int} {tok tk : Tok} {Q : PySem.Fin → Shared → Prop} (ho : h.get? a = some (accObj dx vs n)) (K : (zK c.w.params).In h) (hns : h.Ns1 dx (fun x => if x = iniS then some (.int k tok) else none))
    (hQ : Q (.done (.ret (.ref h.objs.size))) ⟨h.push { cls := .type "builtin_function_or_method", data := .fields #[.builtin "list.__getitem__", .ref a] }, g, d, t, os⟩) : wpAny (model pw c.w) A (Builtin.«object.__getattribute__» ⟨[.ref a, .str giS tk], []⟩) Q E ⟨h, g, d, t, os⟩ := by
  have hc : (accObj dx vs n).cls = .ref 94 := rfl
  have hl : Looks (model pw c.w) h (typeLookup (.ref 94) giS) (some (.builtin "list.__getitem__")) := looks_findIn K (find_gi c)
  have h1 := bnd_gi.tyIs
  have h2 := lk_md_get
  have h3 := md_noset
  have h4 := md_nodel
  unfold Builtin.«object.__getattribute__»
  repeat (any_goals (first | assumption | (with_reducible refine wpAny_loadPart_at ho ?_; rw [hc]) | with_reducible refine Looks.at hl ?_ | wp_step))
  have h94 : h.get? 94 = some (o2x94 c.w.params) := K 94 _ (by kernel_rfl)
  refine wpAny_load (s := ⟨h, g, d, t, os⟩) h94 (wpAny_pure (w_neg (by decide) (wpAny_pure ?_)))
  show wpAny _ _ (nsGet dx giS) _ _ _
  refine wpAny_nsGet hns.ns ?_
  rw [if_neg (by decide +kernel)]
  refine wpAny_bind (wpAny_pure (wpAny_bind (wpAny_rule (wpAny_pure ?_))))
  exact wpAny_bind (m := holding _ _) (wpAny_holding (bnd_get bnd_gi ho K (wpAny_pure hQ)))
end
theorem args_hasattr (a b : Value) : argsOk "hasattr" ⟨[a, b], []⟩ := by unfold argsOk; kernel_rfl
section
variable {c : Cx} {S : Sto} {i k0 : Nat} {l : List D} {k : Int}
theorem has_run {A : Around} {E : Value → Shared → Prop} {s : Shared} {a dx : Addr} {vs : List Value} {n : Nat} {tok tk : Tok} {Q : PySem.Fin → Shared → Prop} (ho : s.heap.get? a = some (accObj dx vs n)) (K : (zK c.w.params).In s.heap) (hns : s.heap.Ns1 dx (fun x => if x = iniS then some (.int k tok) else none))
    (hQ : Q (.done (.ret (.bool true))) { s with heap := s.heap.push { cls := .type "builtin_function_or_method", data := .fields #[.builtin "list.__getitem__", .ref a] } }) : wpAny (model pw c.w) A (Builtin.«hasattr» ⟨[.ref a, .str giS tk], []⟩) Q E s := by
  have hm : peek (zK c.w.params) ⟨pw, c.w.params⟩ (isSubtype (.ref 94) (.type "module")) = some false := by kernel_rfl
  refine wpAny_bind (m := pure [Value.ref a, Value.str giS tk]) (wpAny_pure ?_)
  refine wpAny_bind (wpAny_bind (wpAny_pure (w_neg Bool.false_ne_true (wpAny_pure ?_))))
  refine w_neg Bool.false_ne_true (wpAny_bind (acc_type ho ?_))
  refine wpAny_bind (wpAny_bind (wpAny_pure (wpAny_bind (wpAny_bind (acc_type ho (Looks.here (Looks.of_peek K hm) (w_pos rfl (wpAny_pure ?_))))))))
  refine w_neg (by decide) (wpAny_bind (wpAny_bind (wpAny_attempt ?_)))
  refine wpAny_holding (wpAny_bind (acc_type ho (wpAny_bind (Looks.here (looks_findIn K (r := some (.builtin "list.__getattribute__")) (by kernel_rfl)) ?_))))
  refine w_neg (by decide) ?_
  unfold getAttrByItsOwn hookBefore callGetattribute boundAndCalled
  refine wpAny_bind (w_pos rfl (Looks.here (looks_findIn K (r := none) (by kernel_rfl)) ?_))
  refine wpAny_bind (wpAny_attempt (wpAny_holding (w_neg Bool.false_ne_true ?_)))
  refine wpAny_bind (wpAny_of_eq (F.slot_list_getattribute.bind (.ref a)) ?_)
  refine wpAny_mono (Q := fun v s' => v = .ref s.heap.objs.size ∧ s' = { s with heap := s.heap.push { cls := .type "builtin_function_or_method", data := .fields #[.builtin "list.__getitem__", .ref a] } }) (E := noE) (slotB_getattribute.call am_entry_list_getattribute ho K (F.args_list_getattribute_2 _ _) (gi_body ho K hns ⟨_, rfl, rfl, rfl⟩)) (fun v s' hv => ?_) fun _ _ x => x.elim
  obtain ⟨rfl, rfl⟩ := hv
  exact wpAny_pure (wpAny_pure (wpAny_pure hQ))
theorem fn_hasattr (eS : S[i]? = some (.acc l k)) : FN c k0 (Str.ofString "hasattr") [.ref i, .d (.str giS)] S (.d (.bool true), S) := fn_boot (by kernel_rfl) (by kernel_rfl) fun A a us Q room hv h => by
  refine hv.cs fun u us h1 h2 => h2.one fun w h3 => ?_
  refine V.strs h3 fun tg => a.ac h1 eS fun {o dx vs n t t'} eo ed ho hd lv => accDict_ns1 hd fun tok hns => ?_
  exact call_function_entry (by decide +kernel) (by decide +kernel) (entryFor_of_tree (by kernel_rfl)) (args_hasattr _ _) (has_run ho a.good.kin hns ⟨_, rfl, h _ _ (a.push_to (tk := a.s.toks)) (.bool _)⟩)
end
end
def isIn (its : List (Int × Nat)) (k : Int) : Bool := its.any fun p => p.1 == k
theorem zset {c : Cx} {h : Heap} {a : Addr} {its : List (Int × Nat)} (ho : h.get? a = some (zO (zs its (z0 c.w.params)))) (hh : its.all (fun p => hashInt p.1 == p.1) = true) (hl : its.length < scanBound) : h.SetOf (intKind pw c.w) a (isIn its) its.length := by
  obtain ⟨Z, hp⟩ := zs_ok its (z0 c.w.params) (z0_ok _)
  rw [show (z0 c.w.params).1.toList = [] from rfl, List.append_nil] at hp
  generalize zs its (z0 c.w.params) = z at *
  obtain ⟨es, n, t⟩ := z
  have hsz : es.size = its.length := by
    have := hp.length_eq
    rwa [List.length_reverse, List.length_map] at this
  have mem : ∀ e, e ∈ es.toList ↔ ∃ p ∈ its, (p.1, Value.int p.1 p.2) = e := fun e => by
    rw [hp.mem_iff, List.mem_reverse, List.mem_map]
  refine ⟨_, es, n, t, ho, ⟨rfl, rfl, rfl⟩, rfl, fun e he => ?_, fun k => ?_, by rw [hsz]; exact hl, ?_, hsz⟩
  · obtain ⟨p, hp, rfl⟩ := (mem e).mp he
    exact ⟨⟨p.1, beq_self_eq_true p.1, (beq_iff_eq.mp (List.all_eq_true.mp hh p hp)).symm⟩, rfl⟩
  · unfold isIn
    rw [List.any_eq_true]
    exact ⟨fun ⟨p, hp, e⟩ => ⟨_, (mem _).mpr ⟨p, hp, rfl⟩, e⟩, fun ⟨e, he, q⟩ => by
      obtain ⟨p, hp, rfl⟩ := (mem e).mp he
      exact ⟨p, hp, q⟩⟩
  · have h1 := Z.fits
    have h2 := Z.fill
    simp only [SetTable.fits, Bool.and_eq_true, beq_iff_eq, decide_eq_true_eq]
    exact ⟨h1, h2⟩
section
variable {f : Fr} {e : En} {S S1 : Sto} {x : Str} {y : Expr} {p q : Pos} {i : Int}
theorem e_inSet {its : List (Int × Nat)} {a : Addr} (k : isG f.ks x = true) (hg : Glob f.c x (.ref a)) (hk : (zK f.c.w.params).lookup a = some (zO (zs its (z0 f.c.w.params)))) (hh : its.all (fun p => hashInt p.1 == p.1) = true) (hl : its.length < scanBound) (h1 : EV f y e S (.d (.int i), S1)) : EV f (.Compare y [.In] [.Name x p] q) e S (.d (.bool (isIn its i)), S1) := fun env A a Q P h =>
  wpAny_Compare1 (h1 env A a _ P fun u b t1 v1 => by
    have f1 := (P.to t1).fm
    refine Calls.Name_function_global f1.kind (f1.gl x (isG_inv k).2) (hg A env b.s _ f1.globals f1.builtins b.good.kin ?_) (isG_inv k).1
    refine V.ints v1 fun t => ?_
    exact wpAny_inSet_of (knd := intKind pw f.c.w) (k := i) (beq_self_eq_true i) rfl (zset (b.good.kin _ _ hk) hh hl) (h _ (b.tok _) (t1.trans b.tok_to) (.bool _))) rfl
end
abbrev noT : Thread := ⟨.unsupported "", .builtin "" {}, ⟨0, 0, 0, 0⟩, []⟩
def thOf (o : Option (SharedT × Thread)) : Thread := match o with
  | some (_, t) => t
  | none => noT
def fr0 : Frame := topFrame pos0
def frA (t : Thread) : Frame := match t.stack with
  | a :: _ => a
  | [] => fr0
def frB (t : Thread) : Frame := match t.stack with
  | _ :: b :: _ => b
  | _ => fr0
def frR (t : Thread) : List Frame := t.stack.drop 2
def q17 : Pos := ⟨79, 9, 79, 88⟩
def pre17 (w : World) (os : OsState) : Option (SharedT × Thread) := segGoT treeTable pw w 11 ann0 1 446 (S16 w os) (piecesOf [top 17] env0 cE p16 B0)
theorem pre17_is (os : OsState) : ∀ w : World, pre17 w os = some (L17 (zO (z0 w.params)) 0 404 w os, ⟨denote treeTable cU17, cU17, q17, frA (thOf (pre17 w os)) :: frB (thOf (pre17 w os)) :: frR (thOf (pre17 w os))⟩) := by
  refine byRow2 "special-get-raises" ?_ ?_ <;> intro w <;> unfold pre17 <;> rw [q_sgo, q_tb, q_den] <;> kernel_rfl
theorem suf17 (X : Obj) (os : OsState) : ∀ w : World, segRunT treeTable pw w 11 ann0 1 40 (L17 X 15 419 w os) ⟨denote treeTable cU17, cU17, q17, frA (thOf (pre17 w os)) :: frB (thOf (pre17 w os)) :: frR (thOf (pre17 w os))⟩ = some (.next, S17 X w os, cE, p17) := by
  refine byRow2 "special-get-raises" ?_ ?_ <;> intro w <;> unfold pre17 <;> rw [q_run, q_sgo, q_tb, q_den] <;> kernel_rfl
def q19 : Pos := ⟨82, 9, 82, 52⟩
def pre19 (X8 : Obj) (w : World) (os : OsState) : Option (SharedT × Thread) := segGoT treeTable pw w 11 ann0 1 1778 (S18 X8 w os) (piecesOf [top 19] env0 cE p18 B0)
theorem pre19_is (X8 : Obj) (os : OsState) : ∀ w : World, pre19 X8 w os = some (L19 X8 (zO (z0 w.params)) 0 529 w os, ⟨denote treeTable cU19, cU19, q19, frA (thOf (pre19 X8 w os)) :: frB (thOf (pre19 X8 w os)) :: frR (thOf (pre19 X8 w os))⟩) := by
  refine byRow2 "special-get-raises" ?_ ?_ <;> intro w <;> unfold pre19 <;> rw [q_sgo, q_tb, q_den] <;> kernel_rfl
theorem suf19 (X8 : Obj) (X : Obj) (os : OsState) : ∀ w : World, segRunT treeTable pw w 11 ann0 1 40 (L19 X8 X 97 626 w os) ⟨denote treeTable cU19, cU19, q19, frA (thOf (pre19 X8 w os)) :: frB (thOf (pre19 X8 w os)) :: frR (thOf (pre19 X8 w os))⟩ = some (.next, S19 X8 X w os, cE, p19) := by
  refine byRow2 "special-get-raises" ?_ ?_ <;> intro w <;> unfold pre19 <;> rw [q_run, q_sgo, q_tb, q_den] <;> kernel_rfl
abbrev lw : OpenLaw := PySem.Challenge.rw_yh0008_01
theorem hdef0 : ∃ d kwd, defOf qv (Str.ofString "law") = some (d, kwd) ∧ pw.theDef (Str.ofString "law") = some (d.params, d.body, d.scope) ∧ kwWritten? d.params.kwonlyargs d.params.kw_defaults = some kwd := ⟨_, _, by rfl, by rfl, by rfl⟩
theorem recf0 : ∀ s, Xt0 s = true → RecFacts lw.row.toRowW.records s.heap := fun s e => recFacts_of (Bool.and_eq_true_iff.mp e).2
theorem xl0 : ∀ s, Xt0 s = true → XL qv [] (s.heap.nsMap mainGlobals) s.heap := fun s e => xl_of s (Bool.and_eq_true_iff.mp e).1
theorem wr0 : (!lw.row.writes || lw.row.toRowW.records.isEmpty) = true := by rfl
theorem head1 {z : Sets} (left : LeftO lw.row.prog qv loose0 Xt0 z.H.obs z.H.val 12000 true) (said : lw.row.wellSaid = true) {d : DefRec} {kwd : List (Str × Expr)} (e1 : defOf qv lw.row.name = some (d, kwd)) (e2 : lw.row.prog.theDef lw.row.name = some (d.params, d.body, d.scope)) (e3 : kwWritten? d.params.kwonlyargs d.params.kw_defaults = some kwd)
   (ok : (chainsOk qv && opensWell lw.row.prog && (frees lw.row.toRowW && lw.row.within.isEmpty)) = true) (bare : lw.row.prog.bare) (prom : lw.row.toRowW.promised)
   (call : WalkO qv loose0 (XL qv []) z.H.says lw.row.toRowW d kwd fun f vs => PySem.call f vs) : lw.row.Holds :=
  PySem.W.holds_open left z.H.of z.H.keeps xl0 XL.keeps e1 e2 e3 recf0 wr0 said ok bare prom call
theorem prog_is : lw.row.prog = pw := rfl
theorem name_is : lw.row.name = Str.ofString "law" := rfl
theorem ok1 : (chainsOk qv && opensWell lw.row.prog && (frees lw.row.toRowW && lw.row.within.isEmpty)) = true := ok0
theorem bare1 : lw.row.prog.bare := bare0
theorem prom1 : lw.row.toRowW.promised := prom0
theorem left1 {z : Sets} (Z : z.Made) : LeftO lw.row.prog qv loose0 Xt0 z.H.obs z.H.val 12000 true := left0 Z
theorem sdA : sreFenced lw.row.prog.main = true := by kernel_rfl
theorem sdB : ((moduleNames lw.row.prog.main.body).isEmpty || lookedIntoSs (moduleNames lw.row.prog.main.body) lw.row.prog.main.body) = true := by kernel_rfl
theorem sdC : namesResolve lw.row.prog = true := by kernel_rfl
theorem sdD : (lw.row.prog.boundNames.all (fun n => !worldNames.contains n)) = true := by kernel_rfl
theorem sdE : noRoadLSs { strict := !(importedModules lw.row.prog.main.body).all cThrough.contains, foot := none, bare := (["vars", "dir", "locals"] : List Str).filter (readsOut lw.row.prog lw.row.prog.main.body) } lw.row.prog.main.body = true := by kernel_rfl
theorem sdF : (namesMeet lw.row.prog lw.row.prog.main.body fun _ n => attrL n) = true := by kernel_rfl
theorem sdG : looksOpen lw.row.prog = true := look_both (look_both (look_both (look_both (look_both sdA sdB) sdC) sdD) sdE) sdF
theorem sdPart : lw.row.partSaid = true := by
  unfold OpenRow.partSaid
  rw [sdG]
  kernel_rfl
theorem sdRow : lw.row.wellSaid = true := by
  unfold OpenRow.wellSaid
  rw [sdPart]
  kernel_rfl
theorem sd4 : noClassBlock lw.prog lw.footing = true := by kernel_rfl
theorem sd7 : noRoadLSs { strict := true, foot := some lw.bound', writes := lw.writes, may := lw.may } lw.footing = true := by kernel_rfl
theorem sd8 : defStands lw.about lw.above = true := by kernel_rfl
theorem sd9 : lw.namesIt = true := by kernel_rfl
theorem sd12 : (!lw.writes || (List.flatMap importedNames lw.prog.main.body).all fun n => !lw.reads n) = true := by kernel_rfl
theorem sd13 : ((List.flatMap importedNames lw.prog.main.body).all fun n => !lw.reads n || (drawsOf n lw.prog.main.body).all fun mn => mn.2 != ("attrgetter" : Str) && mn.2 != ("methodcaller" : Str)) = true := by kernel_rfl
theorem sd14 : (namesMeet lw.prog lw.footing fun sc n => (!(["type", "isinstance", "issubclass", "getattr", "hasattr"] : List Str).contains n || sc.names.lookup n == some .globalImplicit) && (lw.may != some n || sc.kind == .module || sc.names.lookup n == some .globalImplicit)) = true := by kernel_rfl
theorem sd17 : (lw.own.all fun n => !builtinNamed n) = true := by kernel_rfl
theorem sd18 : (namesMeet lw.prog lw.above fun _ n => !lw.own.contains n) = true := by kernel_rfl
theorem sd19 : (namesMeet lw.prog lw.footing fun sc n => sc.kind == .module || sc.names.lookup n != some .globalExplicit) = true := by kernel_rfl
theorem said : lw.wellSaid = true := by
  unfold OpenLaw.wellSaid
  repeat' with_reducible refine look_both ?_ ?_
  all_goals first
    | with_reducible exact sdRow
    | with_reducible exact sd4
    | with_reducible exact sd7
    | with_reducible exact sd8
    | with_reducible exact sd9
    | with_reducible exact sd12
    | with_reducible exact sd13
    | with_reducible exact sd14
    | with_reducible exact sd17
    | with_reducible exact sd18
    | with_reducible exact sd19
    | kernel_rfl
theorem head3 {z : Sets} (Z : z.Made) (call : ∀ (d : DefRec) (kwd : List (Str × Expr)), defOf qv (Str.ofString "law") = some (d, kwd) → WalkO qv loose0 (XL qv []) z.H.says lw.row.toRowW d kwd fun f vs => PySem.call f vs) : PySem.Challenge.rw_yh0008_01.Holds := by
  obtain ⟨d, kwd, e1, e2, e3⟩ := hdef0
  exact holds_law said fun said => head1 (left1 Z) said e1 e2 e3 ok1 bare1 prom1 (call d kwd e1)
abbrev ZT := Array (Int × Value) × Nat × SetTable
def mkS (a b : Params → ZT) : Sets := ⟨fun P => (a P).1, fun P => (a P).2.1, fun P => (a P).2.2, fun P => (b P).1, fun P => (b P).2.1, fun P => (b P).2.2⟩
theorem mk_x8 (a b : Params → ZT) (P : Params) : (mkS a b).x8 P = zO (a P) := rfl
theorem mk_x9 (a b : Params → ZT) (P : Params) : (mkS a b).x9 P = zO (b P) := rfl
def theSets : Sets := mkS (fun P => zs its17 (z0 P)) fun P => zs its19 (z0 P)
theorem x8_is (P : Params) : theSets.x8 P = zO (zs its17 (z0 P)) := mk_x8 (fun P => zs its17 (z0 P)) (fun P => zs its19 (z0 P)) P
theorem mk_x9' {a b : Params → ZT} {P : Params} {z : ZT} (hb : b P = z) : (mkS a b).x9 P = zO z := by
  rw [← hb]
  exact mk_x9 _ _ P
theorem x9_is (P : Params) : theSets.x9 P = zO (zs its19 (z0 P)) := mk_x9' (a := fun P => zs its17 (z0 P)) (b := fun P => zs its19 (z0 P)) rfl
theorem made17 (w : World) (os : OsState) : ∃ n, n ≤ 3000 ∧ segRun treeTable pw w 11 ann0 1 n (S16 w os).abs (piecesOf [top 17] env0 cE p16 B0) = some (.next, (S17 (zO (zs its17 (z0 w.params))) w os).abs, cE, p17) := by
  obtain ⟨m, hm, h⟩ := loop17 w os q17 (frA (thOf (pre17 w os))) (frB (thOf (pre17 w os))) (frR (thOf (pre17 w os))) 15 (Nat.le_refl _)
  have e : its17.take 15 = its17 := by decide +kernel
  rw [e] at h
  generalize hT : thOf (pre17 w os) = T at *
  have a0 : segGoT treeTable pw w 11 ann0 1 446 (S16 w os) (piecesOf [top 17] env0 cE p16 B0) = _ := pre17_is os w
  rw [hT] at a0
  have a := segGo_of a0
  have b := segGo_of h
  have c0 := suf17 (zO (zs its17 (z0 w.params))) os w
  rw [hT] at c0
  have c := segRun_of c0
  have d := seg_go a (seg_go b c)
  exact ⟨446 + (m + 40), by omega, d⟩
theorem made19 (X8 : Obj) (w : World) (os : OsState) : ∃ n, n ≤ 6000 ∧ segRun treeTable pw w 11 ann0 1 n (S18 X8 w os).abs (piecesOf [top 19] env0 cE p18 B0) = some (.next, (S19 X8 (zO (zs its19 (z0 w.params))) w os).abs, cE, p19) := by
  obtain ⟨m, hm, h⟩ := loop19 X8 w os q19 (frA (thOf (pre19 X8 w os))) (frB (thOf (pre19 X8 w os))) (frR (thOf (pre19 X8 w os))) 97 (Nat.le_refl _)
  have e : its19.take 97 = its19 := by decide +kernel
  rw [e] at h
  generalize hT : thOf (pre19 X8 w os) = T at *
  have a0 : segGoT treeTable pw w 11 ann0 1 1778 (S18 X8 w os) (piecesOf [top 19] env0 cE p18 B0) = _ := pre19_is X8 os w
  rw [hT] at a0
  have a := segGo_of a0
  have b := segGo_of h
  have c0 := suf19 X8 (zO (zs its19 (z0 w.params))) os w
  rw [hT] at c0
  have c := segRun_of c0
  have d := seg_go a (seg_go b c)
  exact ⟨1778 + (m + 40), by omega, d⟩
theorem made : theSets.Made := by
  refine ⟨fun w os => ?_, fun w os => ?_⟩
  · rw [x8_is]; exact made17 w os
  · rw [x9_is]; exact made19 _ w os
theorem theHead (call : ∀ (d : DefRec) (kwd : List (Str × Expr)), defOf qv (Str.ofString "law") = some (d, kwd) → WalkO qv loose0 (XL qv []) theSets.H.says lw.row.toRowW d kwd fun f vs => PySem.call f vs) : PySem.Challenge.rw_yh0008_01.Holds := head3 made call
def intsD (xs : List Int) : D := .list (xs.map .int)
def wints (xs : List Int) : WData := .list (xs.map .int)
def isInt : WData → Bool
  | .int _ => true
  | _ => false
theorem isInt_inv {d : WData} (h : isInt d = true) : ∃ i, d = .int i := by
  unfold isInt at h
  split at h
  · exact ⟨_, rfl⟩
  · cases h
theorem has_int {R : WRecords} {d : WData} (h : WShape.has R d .int = true) : ∃ i, d = .int i := by
  cases d <;> first | exact ⟨_, rfl⟩ | (unfold WShape.has at h; cases h; done)
theorem has_ints {R : WRecords} : ∀ {ds : List WData}, WShape.hasItems R ds .int = true → ∃ xs : List Int, ds = xs.map .int
  | [], _ => ⟨[], rfl⟩
  | d :: ds, h => by
    unfold WShape.hasItems at h
    obtain ⟨h1, h2⟩ := Bool.and_eq_true_iff.mp h
    obtain ⟨xs, rfl⟩ := has_ints h2
    obtain ⟨i, rfl⟩ := has_int h1
    exact ⟨i :: xs, rfl⟩
theorem has_list {R : WRecords} {d : WData} (h : WShape.has R d (.list .int) = true) : ∃ xs : List Int, d = wints xs := by
  cases d with
  | list ds =>
    unfold WShape.has at h
    have h2 : (WShape.hasItems R ds .int || false) = true := h
    obtain ⟨xs, rfl⟩ := has_ints ((Bool.or_false _).symm.trans h2)
    exact ⟨xs, rfl⟩
  | _ => unfold WShape.has at h; cases h; done
def preF (b : Bool) : Bool := WTm.holds lw.row.toRowW.records (.and (.not (.lit (.bool b))) (.lit (.bool true))) { args := [] }
theorem pre_len {xs : List Int} (h : lw.row.toRowW.pre.holds lw.row.toRowW.records { args := [wints xs] } = true) : xs.length ≤ 63 := by
  have e : lw.row.toRowW.pre.holds lw.row.toRowW.records { args := [wints xs] } = preF (decide ((63 : Int) < ((xs.map WData.int).length : Nat))) := by kernel_rfl
  have f : preF true = false := by kernel_rfl
  rw [e, List.length_map] at h
  refine Int.ofNat_le.mp (Int.not_lt.mp fun q => ?_)
  rw [decide_eq_true (show (63 : Int) < _ from q), f] at h
  cases h
theorem reads_ints {R : WRecords} {cl : Str → Option Addr} {h : Heap} : ∀ {vs : List Value} {xs : List Int} {as : List Addr}, ReadsAllW R cl h vs (xs.map .int) as → Vs [] h vs (xs.map .int)
  | _, [], _, r => by cases r; exact .nil
  | _, x :: xs, _, r => by
    cases r with
    | cons h1 h2 => cases h1; exact .cons (.int _ _) (reads_ints h2)
theorem room_caller {n : Nat} (h : n ≤ 590) : Room n callerA := ⟨rfl, by show 1 + claimMargin + n ≤ 900; have : claimMargin = 300 := rfl; omega, by show 4 + 16 * n ≤ 9800; omega⟩
theorem post_true (xs : List Int) : lw.row.toRowW.claim.post [wints xs] (WData.bool true) [wints xs] = true := by
  kernel_rfl
section
variable {c : Cx} {k0 : Nat} {S : Sto}
theorem fn_inv {a : Int} : FN c (k0 + 1) (Str.ofString "invert") [.d (.int a)] S (.d (.int (Builtin.bitNot a)), S) :=
  fn_of (u_invert c) (g_invert c) (k_invert c) rfl (EX.c (x_return (e_un (e_name (by kernel_rfl) rfl) rfl))) lv_d0
theorem getV_acc {i : Nat} {l : List D} {k j : Int} {x : D} (eS : S[i]? = some (.acc l k)) (hj : 0 ≤ j ∧ j < 4096) (hx : l[j.toNat]? = some x) : getV (.ref i) (.d (.int j)) S = some (.d x) := by
  show (S[i]? >>= M.its) >>= (fun l => itemD l j) = _
  rw [eS]
  show (if 0 ≤ j ∧ j < 4096 then (l[j.toNat]?).map Val.d else none) = _
  rw [if_pos hj, hx]; rfl
theorem fn_getitem {i : Nat} {l : List D} {k j : Int} {x : D} (eS : S[i]? = some (.acc l k)) (hj : 0 ≤ j ∧ j < 4096) (hx : l[j.toNat]? = some x) : FN c (k0 + 1) (Str.ofString "getitem") [.ref i, .d (.int j)] S (.d x, S) :=
  fn_of (u_getitem c) (g_getitem c) (k_getitem c) rfl (EX.c (x_return (e_sub (e_name (by kernel_rfl) rfl) (e_name (by kernel_rfl) rfl) (getV_acc eS hj hx)))) lv_d0
theorem fn_aug {st : Stmt} {ad : Addr} {fd : FuncData} {g : Str} {op : Operator} {a b m : Int} {p1 p2 p3 p4 p5 : Pos} (U : FnAt c st [(Str.ofString "a"), (Str.ofString "b")] ad fd []) (G : Glob c g (.ref ad)) (K : CW c (.ref ad)) (hb : fBody st = [.AugAssign (.Name (Str.ofString "a") p1) op (.Name (Str.ofString "b") p2) p3, .Return (some (.Name (Str.ofString "a") p4)) p5]) (hks : ksOf (fScope st) = [((Str.ofString "a"), .lo), ((Str.ofString "b"), .lo)]) (ok : augOk op = true) (h : binI op a b = some m) : FN c (k0 + 1) g [.d (.int a), .d (.int b)] S (.d (.int m), S) :=
  fn_of U G K rfl (EX.c (by rw [hb, hks]; exact x_augI (by kernel_rfl) rfl (e_name (by kernel_rfl) rfl) ok h (x_return (e_name (by kernel_rfl) rfl)))) lv_d0
theorem fn_iadd {a b : Int} : FN c (k0 + 1) (Str.ofString "iadd") [.d (.int a), .d (.int b)] S (.d (.int (a + b)), S) := fn_aug (u_iadd c) (g_iadd c) (k_iadd c) rfl rfl rfl rfl
theorem fn_iand {a b : Int} : FN c (k0 + 1) (Str.ofString "iand") [.d (.int a), .d (.int b)] S (.d (.int (Builtin.bitAnd a b)), S) := fn_aug (u_iand c) (g_iand c) (k_iand c) rfl rfl rfl rfl
theorem fn_ior {a b : Int} : FN c (k0 + 1) (Str.ofString "ior") [.d (.int a), .d (.int b)] S (.d (.int (Builtin.bitOr a b)), S) := fn_aug (u_ior c) (g_ior c) (k_ior c) rfl rfl rfl rfl
theorem fn_imul {a b : Int} (h : IntMulOk a b) : FN c (k0 + 1) (Str.ofString "imul") [.d (.int a), .d (.int b)] S (.d (.int (a * b)), S) := fn_aug (u_imul c) (g_imul c) (k_imul c) rfl rfl rfl (if_pos h)
theorem fn_ilshift {a b : Int} (h : 0 ≤ b ∧ (Builtin.Int.intBits a : Int) + b ≤ big27) : FN c (k0 + 1) (Str.ofString "ilshift") [.d (.int a), .d (.int b)] S (.d (.int (a * 2 ^ b.toNat)), S) := fn_aug (u_ilshift c) (g_ilshift c) (k_ilshift c) rfl rfl rfl (if_pos h)
theorem fn_irshift {a b : Int} (h : 0 ≤ b) : FN c (k0 + 1) (Str.ofString "irshift") [.d (.int a), .d (.int b)] S (.d (.int (a.fdiv (2 ^ b.toNat))), S) := fn_aug (u_irshift c) (g_irshift c) (k_irshift c) rfl rfl rfl (if_pos h)
theorem fn_iaddL {i : Nat} {l m : List D} (eS : S[i]? = some (.list l)) (hl : l.length + m.length ≤ sizeLine) : FN c (k0 + 1) (Str.ofString "iadd") [.ref i, .d (.list m)] S (.ref i, S.set i (.list (l ++ m))) :=
  fn_of (u_iadd c) (g_iadd c) (k_iadd c) rfl (EX.c (x_augL (by kernel_rfl) rfl (e_name (by kernel_rfl) rfl) eS (if_pos hl) (x_return (e_name (by kernel_rfl) rfl)))) (lv_old List.length_set (List.getElem?_eq_some_iff.mp eS).1)
theorem fn_iconcat {i : Nat} {l m : List D} {k : Int} (eS : S[i]? = some (.acc l k)) (hl : l.length + m.length ≤ sizeLine) : FN c (k0 + 1) (Str.ofString "iconcat") [.ref i, .d (.list m)] S (.ref i, S.set i (.acc (l ++ m) k)) :=
  fn_of (u_iconcat c) (g_iconcat c) (k_iconcat c) rfl (EX.c (x_skip (t_not (w := true) (t_call (e_fn (by kernel_rfl) (v_cons rfl (e_name (by kernel_rfl) rfl) (v_cons rfl (e_const rfl) v_nil)) (fn_hasattr eS)) rfl)) (x_augL (by kernel_rfl) rfl (e_name (by kernel_rfl) rfl) eS (if_pos hl) (x_return (e_name (by kernel_rfl) rfl))))) (lv_old List.length_set (List.getElem?_eq_some_iff.mp eS).1)
end
def md (a : Int) (k : Nat) : Nat := (a.fmod k).toNat
theorem md_is {a : Int} {k : Nat} (hk : 0 < k) : a.fmod k = (md a k : Int) := (Int.toNat_of_nonneg (Int.fmod_nonneg_of_pos a (Int.natCast_pos.mpr hk))).symm
theorem md_lt {a : Int} {k : Nat} (hk : 0 < k) : md a k < k := by
  have := Int.fmod_lt_of_pos a (Int.natCast_pos.mpr hk)
  rw [md_is hk] at this
  exact Int.ofNat_lt.mp this
def sg (k : Nat) : Str := ⟨#[k]⟩
abbrev spS : Str := (Str.ofString " ")
theorem spS_is : spS = sg 32 := by decide +kernel
theorem sg_inj {a b : Nat} (h : sg a = sg b) : a = b := (List.cons.inj (congrArg (fun s : Str => s.cps.toList) h)).1
theorem sg_eqv {a b : Nat} : PyData.eqv (.str (sg a)) (.str (sg b)) = decide (a = b) := by
  show (sg a == sg b) = _
  by_cases h : a = b
  · rw [h, decide_eq_true rfl, beq_self_eq_true]
  · rw [decide_eq_false h, beq_eq_false_iff_ne]
    exact fun e => h (sg_inj e)
theorem sg_shaped {a : Nat} (h : a < 0x110000) : SeqAt.shaped (.str (sg a)) = true := by
  have e2 : PyData.strOk (sg a) = true := by
    unfold PyData.strOk sg
    simp [h]
  have e1 : (PyData.str (sg a)).canLay0 = true := by simp only [PyData.canLay0, e2]
  unfold SeqAt.shaped
  rw [e1]; rfl
theorem cmp_str {a b : Nat} (ha : a < 0x110000) (hb : b < 0x110000) : cmpV .Eq (.d (.str (sg a))) (.d (.str (sg b))) = some (decide (a = b)) := by
  have k : okEq (.str (sg a)) (.str (sg b)) = true := Bool.and_eq_true_iff.mpr ⟨sg_shaped ha, sg_shaped hb⟩
  exact (if_pos k).trans (congrArg some sg_eqv)
def near : List Nat := [31, 33, 64975, 65008, 65533, 65536, 131069, 131072, 1114109, 831, 834, 8205, 8208, 8233, 8239, 8297, 8304, 917504, 917506, 917535, 917632]
def sign0 (m m2 : Nat) : Nat := if m < 32 then 64976 + m else (m - 32) / 2 * 65536 + 65534 + m2
def sign1 (m : Nat) : Nat := m + (if m < 2 then 832 else if m < 4 then 8204 else if m < 9 then 8230 else 8289)
def sign2 (m : Nat) : Nat := if m > 0 then 917535 + m else 917505
def signK : Nat → Int → Nat
  | 0, w => sign0 (md w 66) (md w 2)
  | 1, w => sign1 (md w 15)
  | 2, w => sign2 (md w 97)
  | _, w => near.getD (md w 21) 0
def kindN (n : Int) : Nat := md n 6
def signN (n : Int) : Nat := signK (kindN n) (n.fdiv 6)
def b4 (k : Nat) : Bool := if (k : Int) < 64976 then false else if (k : Int) < 65008 then true else (inD (.int (Builtin.bitAnd (k : Int) 65535)) (.tuple [.int 65534, .int 65535])).getD false
def signOk (k kd : Nat) : Bool := decide (k < 0x110000) && decide (k ≠ 32) && (b4 k == decide (kd = 0)) && (isIn its17 (k : Int) == decide (kd = 1)) && (isIn its19 (k : Int) == decide (kd = 2))
theorem sk0 : ∀ m < 66, ∀ m2 < 2, signOk (sign0 m m2) 0 = true := by decide +kernel
theorem sk1 : ∀ m < 15, signOk (sign1 m) 1 = true := by decide +kernel
theorem sk2 : ∀ m < 97, signOk (sign2 m) 2 = true := by decide +kernel
theorem sk3 : ∀ m < 21, ∀ kd < 3, signOk (near.getD m 0) (kd + 3) = true := by decide +kernel
theorem sign_ok (n : Int) : signOk (signN n) (kindN n) = true := by
  have h : kindN n < 6 := md_lt (by decide)
  unfold signN
  generalize kindN n = k at h
  match k, h with
  | 0, _ => exact sk0 _ (md_lt (by decide)) _ (md_lt (by decide))
  | 1, _ => exact sk1 _ (md_lt (by decide))
  | 2, _ => exact sk2 _ (md_lt (by decide))
  | k + 3, h => exact sk3 _ (md_lt (by decide)) _ (Nat.lt_of_add_lt_add_right h)
structure SignIs (x kc : Nat) : Prop where
  lt : x < 0x110000
  ne : x ≠ 32
  c4 : b4 x = decide (kc = 0)
  c8 : isIn its17 (x : Int) = decide (kc = 1)
  c9 : isIn its19 (x : Int) = decide (kc = 2)
theorem signIs {x kc : Nat} (h : signOk x kc = true) : SignIs x kc := by
  unfold signOk at h
  obtain ⟨h, e⟩ := Bool.and_eq_true_iff.mp h
  obtain ⟨h, d⟩ := Bool.and_eq_true_iff.mp h
  obtain ⟨h, c⟩ := Bool.and_eq_true_iff.mp h
  obtain ⟨a, b⟩ := Bool.and_eq_true_iff.mp h
  exact ⟨of_decide_eq_true a, of_decide_eq_true b, eq_of_beq c, eq_of_beq d, eq_of_beq e⟩
section
variable {c : Cx} {k0 : Nat} {S : Sto}
theorem fn_c11 {k : Nat} (hk : k < 0x110000) : FN c (k0 + 1) (Str.ofString "in_table_c11") [.d (.str (sg k))] S (.d (.bool (decide (k = 32))), S) :=
  fn_of (u_c11 c) (g_c11 c) (k_c11 c) rfl (EX.c (x_return (e_cmp (e_name (by kernel_rfl) rfl) (e_const rfl) rfl (show cmpV .Eq (.d (.str (sg k))) (.d (.str spS)) = _ by rw [spS_is]; exact cmp_str hk (by decide))))) lv_d0
theorem lt_at {a b : Nat} {w : Bool} (h : decide (a < b) = w) : cmpV .Lt (.d (.int (a : Int))) (.d (.int (b : Int))) = some w := congrArg some ((decide_eq_decide.mpr Int.ofNat_lt).trans h)
theorem fn_c4 {k : Nat} : FN c (k0 + 1) (Str.ofString "in_table_c4") [.d (.str (sg k))] S (.d (.bool (b4 k)), S) := by
  refine fn_of (u_c4 c) (g_c4 c) (k_c4 c) rfl (zf := (.ret (.d (.bool (b4 k))), S)) (EX.c (x_asg (by kernel_rfl) (fun _ => rfl) (e_fn (by kernel_rfl) (v_cons rfl (e_name (by kernel_rfl) rfl) v_nil) fn_ord) ?_)) lv_d0
  have tst : ∀ {e : En} {p q t : Pos} {m : Int} {kk : Nat} {w : Bool}, e (Str.ofString "c") = some (.d (.int (k : Int))) → decide ((k : Int) < m) = w → TV ⟨c, k0, ksOf (fScope (top 16))⟩ (.Compare (.Name (Str.ofString "c") p) [.Lt] [.Constant (.int m) kk q] t) e S (w, S) := fun h h2 => t_cmp (e_name (by kernel_rfl) h) (e_const rfl) rfl (congrArg some h2)
  unfold b4
  by_cases h1 : (k : Int) < 64976
  · rw [if_pos h1]
    exact x_ifr (tst rfl (decide_eq_true h1)) (x_return (e_const rfl))
  · rw [if_neg h1]
    refine x_skip (tst rfl (decide_eq_false h1)) ?_
    by_cases h2 : (k : Int) < 65008
    · rw [if_pos h2]
      exact x_ifr (tst rfl (decide_eq_true h2)) (x_return (e_const rfl))
    · rw [if_neg h2]
      exact x_skip (tst rfl (decide_eq_false h2)) (x_return (e_cmp (e_bin (md := false) (e_fn (by kernel_rfl) (v_cons rfl (e_name (by kernel_rfl) rfl) v_nil) fn_ord) (e_const rfl) rfl) (e_tuple (v_cons rfl (e_const rfl) (v_cons rfl (e_const rfl) v_nil)) rfl (Nat.le_of_ble_eq_true rfl)) rfl rfl))
theorem fn_c8 {k : Nat} : FN c (k0 + 1) (Str.ofString "in_table_c8") [.d (.str (sg k))] S (.d (.bool (isIn its17 (k : Int))), S) :=
  fn_of (u_c8 c) (g_c8 c) (k_c8 c) rfl (EX.c (x_return (e_inSet (a := 189) (by kernel_rfl) (glob_own (by kernel_rfl)) (by kernel_rfl) (by decide +kernel) (by decide +kernel) (e_fn (by kernel_rfl) (v_cons rfl (e_name (by kernel_rfl) rfl) v_nil) fn_ord)))) lv_d0
theorem fn_c9 {k : Nat} : FN c (k0 + 1) (Str.ofString "in_table_c9") [.d (.str (sg k))] S (.d (.bool (isIn its19 (k : Int))), S) :=
  fn_of (u_c9 c) (g_c9 c) (k_c9 c) rfl (EX.c (x_return (e_inSet (a := 207) (by kernel_rfl) (glob_own (by kernel_rfl)) (by kernel_rfl) (by decide +kernel) (by decide +kernel) (e_fn (by kernel_rfl) (v_cons rfl (e_name (by kernel_rfl) rfl) v_nil) fn_ord)))) lv_d0
end
theorem mul_lit {S : Sto} {a b : Int} (h : Builtin.Int.intBits b ≤ 64) : binV false .Mult (.d (.int a)) (.d (.int b)) S = some (.d (.int (a * b)), S) := by
  show ((if IntMulOk a b then some (a * b) else none).map PyData.int).map (fun z => (Val.d z, S)) = _
  rw [if_pos (IntMulOk.of_right h)]; rfl
theorem getV_list {S : Sto} {l : List D} {i : Nat} {x : D} (h : i < 4096) (e : l[i]? = some x) : getV (.d (.list l)) (.d (.int (i : Int))) S = some (.d x) := by
  show (if 0 ≤ (i : Int) ∧ (i : Int) < 4096 then (l[i]?).map Val.d else none) = _
  rw [if_pos ⟨Int.natCast_nonneg _, Int.ofNat_lt.mpr h⟩, e]; rfl
section
variable {f : Fr} {e : En} {S S1 : Sto} {p q : Pos} {kk : Nat} {x : Expr} {w i j : Int}
theorem e_mod {k : Nat} (hk : 0 < k) (h1 : EV f x e S (.d (.int w), S1)) : EV f (.BinOp x .Mod (.Constant (.int (k : Int)) kk q) p) e S (.d (.int (md w k)), S1) := by
  refine e_bin (md := false) h1 (e_const rfl) ?_
  show ((if (k : Int) = 0 then none else some (w.fmod k)).map PyData.int).map (fun z => (Val.d z, S1)) = _
  rw [if_neg (Int.ne_of_gt (Int.natCast_pos.mpr hk)), md_is hk]; rfl
theorem EV.int (h : EV f x e S (.d (.int i), S1)) (k : i = j) : EV f x e S (.d (.int j), S1) := k ▸ h
end
def nearD : List D := [.int 31, .int 33, .int 64975, .int 65008, .int 65533, .int 65536, .int 131069, .int 131072, .int 1114109, .int 831, .int 834, .int 8205, .int 8208, .int 8233, .int 8239, .int 8297, .int 8304, .int 917504, .int 917506, .int 917535, .int 917632]
theorem nearD_is : nearD = near.map fun (x : Nat) => PyData.int (x : Int) := by kernel_rfl
theorem nearD_len : nearD.length ≤ sizeLine := Nat.le_of_ble_eq_true (by kernel_rfl)
theorem nearD_at {m : Nat} (h : m < near.length) : nearD[m]? = some (.int ((near.getD m 0 : Nat) : Int)) := by
  rw [nearD_is, List.getElem?_map, List.getD_eq_getElem?_getD, List.getElem?_eq_getElem h, Option.map_some, Option.getD_some]
section
variable {c : Cx} {k0 : Nat} {S : Sto}
theorem fn_chrN {x : Nat} (h : x < 0x110000) : FN c k0 (Str.ofString "chr") [.d (.int (x : Nat))] S (.d (.str (sg x)), S) := fn_chr ⟨Int.natCast_nonneg _, Int.ofNat_le.mpr (Nat.le_of_lt_succ h)⟩
abbrev f22 (c : Cx) (k0 : Nat) : Fr := ⟨c, k0, ksOf (fScope (top 22))⟩
def e22 (n : Int) (r : Nat) : En := putN [(Str.ofString "kind"), (Str.ofString "which")] [.d (.int (r : Int)), .d (.int (n.fdiv 6))] (envL ([(Str.ofString "number")].zip [.d (.int n)]))
theorem t_kind {n m : Int} {r kk : Nat} {p q t : Pos} {w : Bool} (h : ((r : Int) == m) = w) : TV (f22 c k0) (.Compare (.Name (Str.ofString "kind") p) [.Eq] [.Constant (.int m) kk q] t) (e22 n r) S (w, S) := t_cmp (e_name (by kernel_rfl) rfl) (e_const rfl) rfl (congrArg some h)
theorem sg0 {n : Int} : EX (f22 c k0) ((fBody (top 22)).drop 1) (e22 n 0) S (.ret (.d (.str (sg (signK 0 (n.fdiv 6))))), S) := by
  have lt := (signIs (sk0 _ (md_lt (a := n.fdiv 6) (by decide)) _ (md_lt (a := n.fdiv 6) (by decide)))).lt
  show EX _ _ _ _ (.ret (.d (.str (sg (sign0 (md (n.fdiv 6) 66) (md (n.fdiv 6) 2))))), S)
  unfold sign0 at lt ⊢
  by_cases h : md (n.fdiv 6) 66 < 32
  · rw [if_pos h] at lt ⊢
    exact x_ifr (t_bool (a_cons (w := true) (t_kind rfl) (a_cons (w := true) (t_cmp (e_mod (k := 66) (by decide) (e_name (by kernel_rfl) rfl)) (e_const rfl) rfl (lt_at (b := 32) (decide_eq_true h))) a_nil))) (x_return (e_fn (by kernel_rfl) (v_cons rfl (e_bin (md := false) (e_const rfl) (e_mod (k := 66) (by decide) (e_name (by kernel_rfl) rfl)) rfl) v_nil) (fn_chrN lt)))
  · rw [if_neg h] at lt ⊢
    have h' := Nat.le_of_not_lt h
    refine x_skip (t_bool (a_cons (w := true) (t_kind rfl) (a_cons (w := false) (t_cmp (e_mod (k := 66) (by decide) (e_name (by kernel_rfl) rfl)) (e_const rfl) rfl (lt_at (b := 32) (decide_eq_false h))) rfl))) (x_ifr (t_kind rfl) (x_return (e_fn (by kernel_rfl) (v_cons rfl (EV.int (e_bin (md := false) (e_bin (md := false) (e_bin (md := false) (e_bin (md := false) (e_bin (md := false) (e_mod (k := 66) (by decide) (e_name (by kernel_rfl) rfl)) (e_const rfl) rfl) (e_const rfl) rfl) (e_const rfl) (mul_lit (by decide +kernel))) (e_const rfl) rfl) (e_mod (k := 2) (by decide) (e_name (by kernel_rfl) rfl)) rfl) ?_) v_nil) (fn_chrN lt))))
    rw [show ((md (n.fdiv 6) 66 : Int) - 32) = ((md (n.fdiv 6) 66 - 32 : Nat) : Int) from (Int.ofNat_sub h').symm, show (((md (n.fdiv 6) 66 - 32 : Nat) : Int)).fdiv 2 = (((md (n.fdiv 6) 66 - 32) / 2 : Nat) : Int) from (Int.ofNat_fdiv _ 2).symm]
    rfl
theorem sg1 {n : Int} : EX (f22 c k0) ((fBody (top 22)).drop 1) (e22 n 1) S (.ret (.d (.str (sg (signK 1 (n.fdiv 6))))), S) := by
  have lt := (signIs (sk1 _ (md_lt (a := n.fdiv 6) (by decide)))).lt
  show EX _ _ _ _ (.ret (.d (.str (sg (sign1 (md (n.fdiv 6) 15))))), S)
  refine x_skip (t_bool (a_cons (w := false) (t_kind rfl) rfl)) (x_skip (t_kind rfl) (x_ifr (t_kind rfl) (x_asg (by kernel_rfl) (fun _ => rfl) (e_mod (k := 15) (by decide) (e_name (by kernel_rfl) rfl)) (x_return (e_fn (by kernel_rfl) (v_cons rfl ?_ v_nil) (fn_chrN lt))))))
  generalize md (n.fdiv 6) 15 = m
  have tst : ∀ {m b : Nat} {p q t : Pos} {kk : Nat} {w : Bool} {e : En}, decide (m < b) = w → TV (f22 c k0) (.Compare (.Name (Str.ofString "place") p) [.Lt] [.Constant (.int (b : Int)) kk q] t) (put (Str.ofString "place") (.d (.int (m : Int))) e) S (w, S) := fun h => t_cmp (e_name (by kernel_rfl) rfl) (e_const rfl) rfl (lt_at h)
  unfold sign1
  by_cases p2 : m < 2
  · rw [if_pos p2]; exact e_bin (md := false) (e_name (by kernel_rfl) rfl) (e_if (tst (b := 2) (decide_eq_true p2)) (e_const rfl)) rfl
  rw [if_neg p2]
  by_cases p4 : m < 4
  · rw [if_pos p4]; exact e_bin (md := false) (e_name (by kernel_rfl) rfl) (e_if (tst (b := 2) (decide_eq_false p2)) (e_if (tst (b := 4) (decide_eq_true p4)) (e_const rfl))) rfl
  rw [if_neg p4]
  by_cases p9 : m < 9
  · rw [if_pos p9]; exact e_bin (md := false) (e_name (by kernel_rfl) rfl) (e_if (tst (b := 2) (decide_eq_false p2)) (e_if (tst (b := 4) (decide_eq_false p4)) (e_if (tst (b := 9) (decide_eq_true p9)) (e_const rfl)))) rfl
  rw [if_neg p9]; exact e_bin (md := false) (e_name (by kernel_rfl) rfl) (e_if (tst (b := 2) (decide_eq_false p2)) (e_if (tst (b := 4) (decide_eq_false p4)) (e_if (tst (b := 9) (decide_eq_false p9)) (e_const rfl)))) rfl
theorem sg2 {n : Int} : EX (f22 c k0) ((fBody (top 22)).drop 1) (e22 n 2) S (.ret (.d (.str (sg (signK 2 (n.fdiv 6))))), S) := by
  have lt := (signIs (sk2 _ (md_lt (a := n.fdiv 6) (by decide)))).lt
  show EX _ _ _ _ (.ret (.d (.str (sg (sign2 (md (n.fdiv 6) 97))))), S)
  refine x_skip (t_bool (a_cons (w := false) (t_kind rfl) rfl)) (x_skip (t_kind rfl) (x_skip (t_kind rfl) (x_ifr (t_kind rfl) (x_return (e_fn (by kernel_rfl) (v_cons rfl ?_ v_nil) (fn_chrN lt))))))
  unfold sign2
  by_cases h : md (n.fdiv 6) 97 > 0
  · rw [if_pos h]; exact e_if (w := true) (t_cmp (e_mod (k := 97) (by decide) (e_name (by kernel_rfl) rfl)) (e_const rfl) rfl (congrArg some (decide_eq_true (Int.natCast_pos.mpr h)))) (e_bin (md := false) (e_const rfl) (e_mod (k := 97) (by decide) (e_name (by kernel_rfl) rfl)) rfl)
  · rw [if_neg h]; exact e_if (w := false) (t_cmp (e_mod (k := 97) (by decide) (e_name (by kernel_rfl) rfl)) (e_const rfl) rfl (congrArg some (decide_eq_false fun q => h (Int.natCast_pos.mp q)))) (e_const rfl)
theorem sg3 {n : Int} {k : Nat} : EX (f22 c k0) ((fBody (top 22)).drop 1) (e22 n (k + 3)) S (.ret (.d (.str (sg (near.getD (md (n.fdiv 6) 21) 0)))), S) := by
  have h21 : md (n.fdiv 6) 21 < 21 := md_lt (by decide)
  have lt := (signIs (sk3 _ h21 0 (by decide))).lt
  have ne : ∀ m : Nat, m < 3 → (((k + 3 : Nat) : Int) == (m : Int)) = false := fun m hm => beq_eq_false_iff_ne.mpr fun q => Nat.lt_irrefl 3 (Nat.lt_of_le_of_lt (Nat.le_add_left 3 k) (Nat.lt_of_le_of_lt (Nat.le_of_eq (Int.ofNat.inj q)) hm))
  refine x_skip (t_bool (a_cons (w := false) (t_kind (ne 0 (by decide))) rfl)) (x_skip (t_kind (ne 0 (by decide))) (x_skip (t_kind (ne 1 (by decide))) (x_skip (t_kind (ne 2 (by decide))) ?_)))
  have hl := nearD_at h21
  refine x_asg (v := .d (.list nearD)) (S1 := S) ?_ ?_ ?_ ?_
  · kernel_rfl
  · exact fun _ => by kernel_rfl
  · refine e_list (vs := nearD.map .d) ?_ ?_ ?_
    · exact v_cons rfl (e_const rfl) (v_cons rfl (e_const rfl) (v_cons rfl (e_const rfl) (v_cons rfl (e_const rfl) (v_cons rfl (e_const rfl) (v_cons rfl (e_const rfl) (v_cons rfl (e_const rfl) (v_cons rfl (e_const rfl) (v_cons rfl (e_const rfl) (v_cons rfl (e_const rfl) (v_cons rfl (e_const rfl) (v_cons rfl (e_const rfl) (v_cons rfl (e_const rfl) (v_cons rfl (e_const rfl) (v_cons rfl (e_const rfl) (v_cons rfl (e_const rfl) (v_cons rfl (e_const rfl) (v_cons rfl (e_const rfl) (v_cons rfl (e_const rfl) (v_cons rfl (e_const rfl) (v_cons rfl (e_const rfl) v_nil))))))))))))))))))))
    · kernel_rfl
    · exact nearD_len
  · exact x_return (e_fn (by kernel_rfl) (v_cons rfl (e_sub (e_name (by kernel_rfl) rfl) (e_mod (k := 21) (by decide) (e_name (by kernel_rfl) rfl)) (getV_list (Nat.lt_trans h21 (by decide)) hl)) v_nil) (fn_chrN lt))
theorem fn_sign {n : Int} : FN c (k0 + 1) (Str.ofString "_law_sign") [.d (.int n)] S (.d (.str (sg (signN n))), S) := by
  refine fn_of (u_sign c) (g_sign c) (k_sign c) rfl (zf := (.ret (.d (.str (sg (signN n)))), S)) (EX.c (x_tup (.cons (.cons .nil)) (by kernel_rfl) (v_cons rfl (e_mod (k := 6) (by decide) (e_name (by kernel_rfl) rfl)) (v_cons rfl (e_bin (md := false) (e_name (by kernel_rfl) rfl) (e_const rfl) rfl) v_nil)) (by decide +kernel) rfl ?_)) lv_d0
  have h : kindN n < 6 := md_lt (by decide)
  change EX (f22 c k0) ((fBody (top 22)).drop 1) (e22 n (kindN n)) S _
  unfold signN
  generalize kindN n = k at h
  match k with
  | 0 => exact sg0
  | 1 => exact sg1
  | 2 => exact sg2
  | k + 3 => exact sg3
end
inductive Tg (ks : List (Str × EK)) : Expr → List Str → D → List Val → Prop
  | name {x : Str} {p : Pos} {d : D} : isVa ks x = true → Tg ks (.Name x p) [x] d [.d d]
  | tup {es : List Expr} {k : Nat} {p : Pos} {xs : List Str} {ds : List D} : Nms es xs → xs.all (isVa ks) = true → xs.length = ds.length → Tg ks (.Tuple es k p) xs (.tuple ds) (ds.map .d)
theorem Tg.asg {ks : List (Str × EK)} {t : Expr} {xs : List Str} {d : D} {vs : List Val} (h : Tg ks t xs d vs) (e : En) : Asg ks t d e (putN xs vs e) ∧ xs.length = vs.length := by
  cases h with
  | name k => exact ⟨.name k, rfl⟩
  | tup a b c => exact ⟨.tup a b c, c.trans (List.length_map _).symm⟩
def EqX (xs : List Str) (e0 e : En) : Prop := ∀ y, y ∉ xs → e y = e0 y
theorem putN_eqX {xs : List Str} : ∀ {vs : List Val} {e0 e : En}, EqX xs e0 e → xs.length = vs.length → putN xs vs e = putN xs vs e0 := by
  induction xs with
  | nil =>
    intro vs e0 e h hl
    cases vs with
    | nil => exact funext fun y => h y List.not_mem_nil
    | cons _ _ => cases hl
  | cons x xs ih =>
    intro vs e0 e h hl
    cases vs with
    | nil => cases hl
    | cons v vs =>
      refine ih (fun y hy => ?_) (Nat.succ.inj hl)
      by_cases q : y = x
      · rw [q, put_same, put_same]
      · have hx := beq_eq_false_iff_ne.mpr q
        rw [put_ne hx rfl, put_ne hx rfl]
        exact h y fun m => (List.mem_cons.mp m).elim q hy
theorem putN_out {xs : List Str} : ∀ {vs : List Val} {e : En}, EqX xs e (putN xs vs e) := by
  induction xs with
  | nil => intro vs e y _; rfl
  | cons x xs ih =>
    intro vs e y hy
    cases vs with
    | nil => rfl
    | cons v vs => exact (ih y fun m => hy (.tail _ m)).trans (put_ne (beq_eq_false_iff_ne.mpr fun q => hy (q ▸ .head _)) rfl)
section
variable {f : Fr} {elt tgt iter : Expr} {ifs : List Expr} {sc : Scope} {e : En} {S S1 : Sto} {u : Option (Nat × M)} {xs : List Str} {α : Type} {L : List α} {d h : α → D} {v : α → List Val} {w : α → Bool} {md : Bool}
theorem c_map (ok : scOk sc [⟨tgt, iter, [], 0⟩] = true) (okf : compFree sc f.ks = true) (h1 : SRC f tgt iter e S (L.map d, S1, u)) (ht : ∀ a ∈ L, Tg (ksOf sc) tgt xs (d a) (v a)) (hl : L.length ≤ sizeLine) (hv : ∀ a ∈ L, EV ⟨f.c, f.k, ksOf sc⟩ elt (putN xs (v a) (freeE sc e)) (lkS u S1) (.d (h a), lkS u S1)) : CP f elt [⟨tgt, iter, [], 0⟩] sc e S (cfin md (L.map h) S1) := by
  refine c_one (J := EqX xs (freeE sc e)) ok okf h1 (fun y _ => rfl) ?_ (by rw [List.length_map]; exact hl)
  clear h1 hl
  induction L with
  | nil => exact .nil
  | cons a L ih =>
    refine .yes (ys := [h a]) (fun e1 j => ?_) (ih (fun b m => ht b (.tail _ m)) fun b m => hv b (.tail _ m))
    obtain ⟨h2, h3⟩ := (ht a (.head _)).asg e1
    rw [putN_eqX j h3] at h2
    exact ⟨_, h2, putN_out, .nil, _, rfl, hv a (.head _)⟩
theorem c_filter (ok : scOk sc [⟨tgt, iter, ifs, 0⟩] = true) (okf : compFree sc f.ks = true) (h1 : SRC f tgt iter e S (L.map d, S1, u)) (ht : ∀ a ∈ L, Tg (ksOf sc) tgt xs (d a) (v a)) (hl : L.length ≤ sizeLine) (hw : ∀ a ∈ L, AT ⟨f.c, f.k, ksOf sc⟩ .And ifs (putN xs (v a) (freeE sc e)) (lkS u S1) (w a, lkS u S1)) (hv : ∀ a ∈ L, w a = true → EV ⟨f.c, f.k, ksOf sc⟩ elt (putN xs (v a) (freeE sc e)) (lkS u S1) (.d (h a), lkS u S1)) : CP f elt [⟨tgt, iter, ifs, 0⟩] sc e S (cfin md ((L.filter w).map h) S1) := by
  refine c_one (J := EqX xs (freeE sc e)) ok okf h1 (fun y _ => rfl) ?_ (by rw [List.length_map]; exact Nat.le_trans (List.length_filter_le _ _) hl)
  clear h1 hl
  induction L with
  | nil => exact .nil
  | cons a L ih =>
    have ih := ih (fun b m => ht b (.tail _ m)) (fun b m => hw b (.tail _ m)) fun b m => hv b (.tail _ m)
    have key : ∀ e1, EqX xs (freeE sc e) e1 → Asg (ksOf sc) tgt (d a) e1 (putN xs (v a) (freeE sc e)) := fun e1 j => by
      obtain ⟨h2, h3⟩ := (ht a (.head _)).asg e1
      rwa [putN_eqX j h3] at h2
    by_cases hx : w a = true
    · rw [List.filter_cons_of_pos hx]
      exact .yes (ys := [h a]) (fun e1 j => ⟨_, key e1 j, putN_out, hx ▸ hw a (.head _), _, rfl, hv a (.head _) hx⟩) ih
    · rw [List.filter_cons_of_neg hx]
      exact .no (fun e1 j => ⟨_, key e1 j, putN_out, Bool.eq_false_iff.mpr hx ▸ hw a (.head _)⟩) ih
end
def toldD (k : Int) (ps : List (Str × Str)) : D := .tuple [.str (ofL (txtL ps)), .int (accLen k ps), .int (ps.length : Nat), .list (psD ps)]
theorem psD_len (ps : List (Str × Str)) : (psD ps).length = ps.length := List.length_map _
theorem le_line {n : Nat} (h : n ≤ 16000) : n ≤ sizeLine := Nat.le_trans h (by decide)
theorem Few.line {ps : List (Str × Str)} (h : Few ps) : ps.length ≤ sizeLine := le_line (Nat.le_trans h.1 (by decide))
section
variable {c : Cx} {k0 : Nat} {S : Sto}
theorem fn_told {i : Nat} {k : Int} {ps : List (Str × Str)} (eS : S[i]? = some (.acc (psD ps) k)) (F : Few ps) (hk : 0 ≤ k ∧ k ≤ 1000) : FN c (k0 + 4) (Str.ofString "_law_told") [.ref i] S (.d (toldD k ps), S) := by
  refine fn_of (k := k0 + 3) (u_told c) (g_told c) (k_told c) rfl (EX.c (x_return (e_tuple (vs := [.d (.str (ofL (txtL ps))), .d (.int (accLen k ps)), .d (.int (ps.length : Nat)), .d (.list (psD ps))]) (v_cons rfl (e_fn (by kernel_rfl) (v_cons rfl (e_name (by kernel_rfl) rfl) v_nil) (fn_str_acc (k0 := k0) eS F)) (v_cons rfl (e_fn (by kernel_rfl) (v_cons rfl (e_name (by kernel_rfl) rfl) v_nil) (fn_len_acc (k0 := k0 + 1) eS F hk)) (v_cons rfl (e_me rfl (Nat.le_of_ble_eq_true rfl) rfl (e_name (by kernel_rfl) rfl) v_nil (fun _ h => h) (psD_len ps ▸ me_part_count eS)) (v_cons rfl (e_comp (c_map (md := false) (xs := [(Str.ofString "piece")]) (L := ps) (d := pD) (h := pD) (v := fun p => [.d (pD p)]) (by kernel_rfl) (by kernel_rfl) (src_plain (fun _ _ => rfl) (e_name (by kernel_rfl) rfl) (.ref eS rfl)) (fun p _ => .name (by kernel_rfl)) F.line fun p _ => (e_name (by kernel_rfl) rfl))) v_nil)))) rfl (Nat.le_of_ble_eq_true rfl)))) lv_d0
theorem fn_due {lead : Int} {ps : List (Str × Str)} (F : Few ps) : FN c (k0 + 1) (Str.ofString "_law_due") [.d (.list (psD ps)), .d (.int lead)] S (.d (toldD lead ps), S) := by
  have hj : Txt.join emptyS ((ps.map pcL).map ofL) = ofL (txtL ps) := by rw [List.map_map]; exact strTotal_is ps
  have okj : JoinOk emptyS ((ps.map pcL).map ofL) = true := by rw [List.map_map]; exact F.join
  have jn : ME c k0 (Str.ofString "join") (.d (.str emptyS)) [.d (.list (ps.map fun p => .str (ofL (pcL p))))] S (.d (.str (ofL (txtL ps))), S) := by
    have := me_join (c := c) (k := k0) (S := S) okj
    rw [hj, List.map_map, List.map_map] at this
    exact this
  refine fn_of (u_due c) (g_due c) (k_due c) rfl (EX.c (x_asg (by kernel_rfl) (fun _ => rfl) (e_me rfl (Nat.le_of_ble_eq_true rfl) rfl (e_const rfl) (v_cons rfl (e_comp (c_map (md := false) (xs := [(Str.ofString "blank"), (Str.ofString "sign")]) (L := ps) (d := pD) (h := fun p => .str (ofL (pcL p))) (v := fun p => [.d (.str p.1), .d (.str p.2)]) (by kernel_rfl) (by kernel_rfl) (src_plain (fun _ _ => rfl) (e_name (by kernel_rfl) rfl) (.lst _)) (fun p _ => .tup (.cons (.cons .nil)) (by kernel_rfl) rfl) F.line fun p hp => ?_)) v_nil) (fun _ h => h) jn) (x_return (e_tuple (vs := [.d (.str (ofL (txtL ps))), .d (.int (accLen lead ps)), .d (.int (ps.length : Nat)), .d (.list (psD ps))]) (v_cons rfl (e_name (by kernel_rfl) rfl) (v_cons rfl (e_bin (md := false) (e_name (by kernel_rfl) rfl) (e_fn (by kernel_rfl) (v_cons rfl (e_name (by kernel_rfl) rfl) v_nil) (fn_len_str (le_line F.len))) rfl) (v_cons rfl (e_fn (by kernel_rfl) (v_cons rfl (e_name (by kernel_rfl) rfl) v_nil) (psD_len ps ▸ fn_len_list (by rw [psD_len]; exact F.line))) (v_cons rfl (e_name (by kernel_rfl) rfl) v_nil)))) rfl (Nat.le_of_ble_eq_true rfl))))) lv_d0
  refine e_bin (md := false) (e_name (by kernel_rfl) rfl) (e_name (by kernel_rfl) rfl) ?_
  have h8 := F.2 p hp
  show ((if p.1.length + p.2.length ≤ sizeLine then some (PyData.str (p.1 ++ p.2)) else none)).map (fun z => (Val.d z, S)) = _
  rw [if_pos (le_line (Nat.le_trans (Nat.add_le_add h8.1 h8.2) (by decide)))]
  exact congrArg (fun x => some (Val.d (.str x), S)) (ofL_app p.1.cps.toList p.2.cps.toList)
end
theorem allN {α : Type} {P : α → Prop} : ∀ z ∈ ([] : List α), P z := fun _ m => nomatch m
theorem allC {α : Type} {P : α → Prop} {a : α} {l : List α} (h : P a) (k : ∀ z ∈ l, P z) : ∀ z ∈ a :: l, P z := fun z m => (List.mem_cons.mp m).elim (fun q => q ▸ h) (k z)
structure OkD (n : Nat) (d : D) : Prop where
  lay : d.canLay0 = true
  deep : d.depth ≤ n
  eqv : PyData.eqv d d = true
theorem okD_all {n : Nat} {l : List D} (h : ∀ d ∈ l, OkD n d) : PyData.canLayAll0 l = true ∧ PyData.depthAll l ≤ n ∧ PyData.eqvAll l l = true := by
  induction l with
  | nil => exact ⟨rfl, Nat.zero_le _, rfl⟩
  | cons d l ih =>
    have a := h d (.head _)
    obtain ⟨b1, b2, b3⟩ := ih fun x hx => h x (.tail _ hx)
    exact ⟨Bool.and_eq_true_iff.mpr ⟨a.lay, b1⟩, Nat.max_le.mpr ⟨a.deep, b2⟩, Bool.and_eq_true_iff.mpr ⟨a.eqv, b3⟩⟩
section
variable {n : Nat}
theorem OkD.none : OkD n .none := ⟨rfl, Nat.zero_le _, rfl⟩
theorem OkD.int (i : Int) : OkD n (.int i) := ⟨rfl, Nat.zero_le _, beq_self_eq_true i⟩
theorem OkD.str {x : Str} (h : PyData.strOk x = true) : OkD n (.str x) := ⟨h, Nat.zero_le _, beq_self_eq_true x⟩
theorem OkD.list {l : List D} (h : ∀ d ∈ l, OkD n d) : OkD (n + 1) (.list l) := let ⟨a, b, c⟩ := okD_all h; ⟨a, Nat.succ_le_succ b, c⟩
theorem OkD.tuple {l : List D} (h : ∀ d ∈ l, OkD n d) : OkD (n + 1) (.tuple l) := let ⟨a, b, c⟩ := okD_all h; ⟨a, Nat.succ_le_succ b, c⟩
theorem OkD.shaped {d : D} (h : OkD 64 d) : SeqAt.shaped d = true := by
  unfold SeqAt.shaped
  rw [h.lay, decide_eq_true h.deep]; rfl
theorem OkD.mono {m : Nat} {d : D} (h : OkD n d) (k : n ≤ m) : OkD m d := ⟨h.lay, Nat.le_trans h.deep k, h.eqv⟩
end
theorem okEq_of {a b : D} (ha : OkD 64 a) (hb : OkD 64 b) : okEq a b = true := Bool.and_eq_true_iff.mpr ⟨ha.shaped, hb.shaped⟩
theorem cmp_eq {a b : D} (ha : OkD 64 a) (hb : OkD 64 b) : cmpV .Eq (.d a) (.d b) = some (PyData.eqv a b) := if_pos (okEq_of ha hb)
theorem cmp_ne {a b : D} {w : Bool} (ha : OkD 64 a) (hb : OkD 64 b) (h : PyData.eqv a b = !w) : cmpV .NotEq (.d a) (.d b) = some w := by
  show (datB eqD (.d a) (.d b)).map (!·) = _
  rw [show datB eqD (.d a) (.d b) = some (PyData.eqv a b) from cmp_eq ha hb, h]
  cases w <;> rfl
theorem ne_self {d : D} (h : OkD 64 d) : cmpV .NotEq (.d d) (.d d) = some false := cmp_ne h h h.eqv
theorem eq_self {d : D} (h : OkD 64 d) : cmpV .Eq (.d d) (.d d) = some true := (cmp_eq h h).trans (congrArg some h.eqv)
theorem ofL_ok {l : List Nat} (h : ∀ c ∈ l, c < 0x110000) : PyData.strOk (ofL l) = true := by
  show l.toArray.all (· < 0x110000) = true
  rw [List.all_toArray]
  exact List.all_eq_true.mpr fun c m => decide_eq_true (h c m)
theorem strOk_at {x : Str} (h : PyData.strOk x = true) {c : Nat} (hc : c ∈ x.cps.toList) : c < 0x110000 := by
  have h' : x.cps.all (· < 0x110000) = true := h
  rw [← Array.all_toList] at h'
  exact of_decide_eq_true (List.all_eq_true.mp h' c hc)
theorem em_ok : PyData.strOk emptyS = true := by decide +kernel
theorem sp_ok : PyData.strOk spS = true := by decide +kernel
theorem sg_ok {c : Nat} (h : c < 0x110000) : PyData.strOk (sg c) = true := ofL_ok (l := [c]) fun d hd => List.mem_singleton.mp hd ▸ h
def okPs (ps : List (Str × Str)) : Prop := ∀ p ∈ ps, PyData.strOk p.1 = true ∧ PyData.strOk p.2 = true
theorem txt_ok {ps : List (Str × Str)} (h : okPs ps) : PyData.strOk (ofL (txtL ps)) = true := by
  refine ofL_ok fun c hc => ?_
  obtain ⟨p, hp, hcp⟩ := List.mem_flatMap.mp hc
  exact (List.mem_append.mp hcp).elim (strOk_at (h p hp).1) (strOk_at (h p hp).2)
theorem pD_ok {p : Str × Str} {n : Nat} (h : PyData.strOk p.1 = true ∧ PyData.strOk p.2 = true) : OkD (n + 1) (pD p) := .tuple (allC (.str h.1) (allC (.str h.2) allN))
theorem psD_ok {ps : List (Str × Str)} (h : okPs ps) {n : Nat} : OkD (n + 2) (.list (psD ps)) := .list fun d hd => by
  obtain ⟨p, hp, rfl⟩ := List.mem_map.mp hd
  exact pD_ok (h p hp)
theorem toldD_ok {ps : List (Str × Str)} (h : okPs ps) {k : Int} {n : Nat} : OkD (n + 3) (toldD k ps) := .tuple (allC (.str (txt_ok h)) (allC (.int _) (allC (.int _) (allC (psD_ok h) allN))))
def csD (cs : List Nat) : List D := cs.map fun (c : Nat) => PyData.int (c : Int)
def rowD (cs : List Nat) : D := .list (csD cs)
def rowsD (rows : List (List Nat)) : List D := rows.map rowD
theorem csD_ok {cs : List Nat} {n : Nat} : OkD (n + 1) (rowD cs) := .list fun d hd => by
  obtain ⟨c, _, rfl⟩ := List.mem_map.mp hd
  exact .int _
theorem in_cs {cs : List Nat} {c : Nat} : cmpV .In (.d (.int (c : Int))) (.d (rowD cs)) = some (cs.contains c) := by
  show (if okEq (rowD cs) (.int (c : Int)) = true then some ((csD cs).any fun y => PyData.eqv y (.int (c : Int))) else none) = _
  rw [if_pos (okEq_of (csD_ok (n := 63)) (.int _))]
  congr 1
  induction cs with
  | nil => rfl
  | cons x cs ih =>
    show (((x : Int) == (c : Int)) || (csD cs).any fun y => PyData.eqv y (.int (c : Int))) = _
    rw [ih, List.contains_cons]
    congr 1
    exact Bool.eq_iff_iff.mpr ⟨fun h => beq_iff_eq.mpr (Int.ofNat.inj (eq_of_beq h)).symm, fun h => beq_iff_eq.mpr (congrArg Int.ofNat (eq_of_beq h).symm)⟩
section
variable {f : Fr} {e : En} {S S1 : Sto} {p q : Pos} {kk : Nat} {x y : Expr} {a b : Nat}
theorem e_modN {k : Nat} (hk : 0 < k) (h1 : EV f x e S (.d (.int (a : Int)), S1)) : EV f (.BinOp x .Mod (.Constant (.int (k : Int)) kk q) p) e S (.d (.int ((a % k : Nat) : Int)), S1) := by
  have := e_mod (p := p) (q := q) (kk := kk) hk h1
  rwa [show ((md (a : Int) k : Nat) : Int) = ((a % k : Nat) : Int) from (md_is hk).symm.trans (Int.ofNat_fmod a k).symm] at this
theorem e_div4 (h1 : EV f x e S (.d (.int (a : Int)), S1)) : EV f (.BinOp x .FloorDiv (.Constant (.int 4) kk q) p) e S (.d (.int ((a / 4 : Nat) : Int)), S1) :=
  EV.int (e_bin (md := false) h1 (e_const rfl) rfl) (Int.ofNat_fdiv a 4).symm
theorem eq_at {w : Bool} (h : decide (a = b) = w) : cmpV .Eq (.d (.int (a : Int))) (.d (.int (b : Int))) = some w := by
  show some ((a : Int) == (b : Int)) = _
  rw [← h]
  exact congrArg some (Bool.eq_iff_iff.mpr ⟨fun h => decide_eq_true (Int.ofNat.inj (eq_of_beq h)), fun h => beq_iff_eq.mpr (congrArg Int.ofNat (of_decide_eq_true h))⟩)
end
theorem eqLe {a b c : Nat} (h : a = b) (k : b ≤ c) : a ≤ c := h ▸ k
def ifL {α : Type} : Bool → List α → List α
  | true, l => l
  | false, _ => []
theorem ifL_len {α : Type} {c : Bool} {l : List α} : (ifL c l).length ≤ l.length := by cases c; exact Nat.zero_le _; exact Nat.le_refl _
theorem ifL_map {α β : Type} {c : Bool} {l : List α} {g : α → β} : (ifL c l).map g = ifL c (l.map g) := by cases c <;> rfl
theorem ifL_mem {α : Type} {c : Bool} {l : List α} {x : α} (h : x ∈ ifL c l) : c = true ∧ x ∈ l := by
  cases c
  · cases h
  · exact ⟨rfl, h⟩
theorem set_last {S : Sto} {a b : M} : (S ++ [a]).set S.length b = S ++ [b] := by
  rw [List.set_append_right _ _ (Nat.le_refl _), Nat.sub_self]; rfl
theorem get_last {S : Sto} {a : M} : (S ++ [a])[S.length]? = some a := List.getElem?_concat_length
theorem take_last {S : Sto} {a : M} : (S ++ [a]).take S.length = S := List.take_left' rfl
theorem put_id {x : Str} {v : Val} {e : En} (h : e x = some v) : put x v e = e := funext fun y => by
  by_cases q : y = x
  · rw [q, put_same, h]
  · exact put_ne (beq_eq_false_iff_ne.mpr q) rfl
theorem lv_new {S : Sto} {l : List D} : LV S (.ret (.ref S.length), S ++ [.list l]) (.d (.list l), S) := by
  have := LV.lst (S := S) (Nat.le_refl S.length) (get_last (a := .list l))
  rwa [take_last] at this
theorem e_lcat {f : Fr} {e : En} {S S1 S2 : Sto} {x y : Expr} {p : Pos} {l m l' : List D} (h1 : EV f x e S (.d (.list l), S1)) (h2 : EV f y e S1 (.d (.list m), S2)) (hl : l ++ m = l') (h : l.length + m.length ≤ sizeLine) : EV f (.BinOp x .Add y p) e S (.d (.list l'), S2) :=
  e_bin (md := false) h1 h2 (by
    show ((if l.length + m.length ≤ sizeLine then some (PyData.list (l ++ m)) else none).map fun x => (Val.d x, _)) = _
    rw [if_pos h, hl]
    rfl)
theorem lv_wk {S : Sto} {x : D} {m : M} : LV S (.ret (.d x), S ++ [m]) (.d x, S) := by
  have := LV.data (S := S) (S' := S ++ [m]) (x := x)
  rwa [take_last] at this
section
variable {f : Fr} {e : En} {S : Sto} {p q t : Pos} {x : Str} {t0 call : Expr} {ss : List Stmt} {l0 l1 : List D} {w : Bool} {z : Fl × Sto}
theorem x_ifadd (kx : isVa f.ks x = true) (hx : e x = some (.ref S.length)) (h1 : TV f t0 e (S ++ [.list l0]) (w, S ++ [.list l0])) (h2 : w = true → EV f call e (S ++ [.list l0]) (.d (.list l1), S ++ [.list l0])) (hl : l0.length + l1.length ≤ sizeLine) (nx : EX f ss e (S ++ [.list (l0 ++ ifL w l1)]) z) : EX f (.If t0 [.AugAssign (.Name x p) .Add call q] [] t :: ss) e (S ++ [.list l0]) z := by
  cases w with
  | false => exact x_skip h1 (by rwa [show l0 ++ ifL false l1 = l0 from List.append_nil _] at nx)
  | true =>
    refine x_if h1 (x_augL kx hx (h2 rfl) get_last (if_pos hl) x_nil) ?_
    rw [put_id hx, set_last]
    exact nx
end
def wk (cl : List Nat) (goal : Nat) : Nat → Nat → List (List Nat)
  | 0, _ => []
  | m + 1, cell => ifL (!cl.contains cell) ((ifL (decide (cell = goal)) [[]] ++ ifL (decide (cell % 4 < goal % 4)) (wk cl goal m (cell + 1)) ++ ifL (decide (cell / 4 < goal / 4)) (wk cl goal m (cell + 4))).map (cell :: ·))
theorem wk_all {cl : List Nat} {goal : Nat} {P : Nat → Nat → List Nat → Prop} (h0 : ∀ m, cl.contains goal = false → P (m + 1) goal [goal]) (h1 : ∀ m cell r, cl.contains cell = false → cell % 4 < goal % 4 → P m (cell + 1) r → P (m + 1) cell (cell :: r)) (h4 : ∀ m cell r, cl.contains cell = false → cell / 4 < goal / 4 → P m (cell + 4) r → P (m + 1) cell (cell :: r)) : ∀ m cell, ∀ row ∈ wk cl goal m cell, P m cell row
  | 0, _, _, h => nomatch h
  | m + 1, cell, row, h => by
    obtain ⟨hc, h⟩ := ifL_mem h
    have hc := (Bool.not_eq_true' _).mp hc
    obtain ⟨r, h', rfl⟩ := List.mem_map.mp h
    rcases List.mem_append.mp h' with h | h
    · rcases List.mem_append.mp h with h | h
      · obtain ⟨q, h⟩ := ifL_mem h
        cases List.mem_singleton.mp h
        cases of_decide_eq_true q
        exact h0 m hc
      · obtain ⟨q, h⟩ := ifL_mem h
        exact h1 m cell r hc (of_decide_eq_true q) (wk_all h0 h1 h4 m _ r h)
    · obtain ⟨q, h⟩ := ifL_mem h
      exact h4 m cell r hc (of_decide_eq_true q) (wk_all h0 h1 h4 m _ r h)
theorem wk_row {cl : List Nat} {goal m cell : Nat} {row : List Nat} (h : row ∈ wk cl goal m cell) : row.length ≤ m :=
  wk_all (P := fun m _ row => row.length ≤ m) (fun m _ => Nat.succ_le_succ (Nat.zero_le m)) (fun _ _ _ _ _ => Nat.succ_le_succ) (fun _ _ _ _ _ => Nat.succ_le_succ) m cell row h
def wkR (cl : List Nat) (goal m cell : Nat) : List (List Nat) := ifL (decide (cell = goal)) [[]] ++ ifL (decide (cell % 4 < goal % 4)) (wk cl goal m (cell + 1)) ++ ifL (decide (cell / 4 < goal / 4)) (wk cl goal m (cell + 4))
theorem len3 {α : Type} {a b d : List α} {n : Nat} (h1 : a.length ≤ 1) (h2 : b.length ≤ 3 ^ n) (h3 : d.length ≤ 3 ^ n) : (a ++ b).length ≤ 3 ^ (n + 1) ∧ (a ++ b ++ d).length ≤ 3 ^ (n + 1) := by
  have e : 3 ^ (n + 1) = 3 ^ n + 3 ^ n + 3 ^ n := by rw [Nat.pow_succ, Nat.mul_succ, Nat.mul_two]
  have h0 := Nat.one_le_pow n 3 (by decide)
  have k : (a ++ b).length ≤ 3 ^ n + 3 ^ n := List.length_append ▸ Nat.add_le_add (Nat.le_trans h1 h0) h2
  rw [e]
  exact ⟨Nat.le_trans k (Nat.le_add_right _ _), List.length_append ▸ Nat.add_le_add k h3⟩
theorem wk_len (cl : List Nat) (goal : Nat) : ∀ m cell, (wk cl goal m cell).length ≤ 3 ^ m
  | 0, _ => Nat.zero_le _
  | m + 1, cell => by
    refine Nat.le_trans ifL_len ?_
    rw [List.length_map]
    exact (len3 (ifL_len (l := [[]])) (Nat.le_trans ifL_len (wk_len cl goal m _)) (Nat.le_trans ifL_len (wk_len cl goal m _))).2
theorem pow_line {m n : Nat} (hm : m ≤ 7) (h : n ≤ 3 ^ m) : n ≤ sizeLine := le_line (Nat.le_trans h (Nat.le_trans (Nat.pow_le_pow_right (by decide) hm) (by decide)))
theorem rows_add {a b : List (List Nat)} {w : Bool} : rowsD a ++ ifL w (rowsD b) = rowsD (a ++ ifL w b) := by
  unfold rowsD
  rw [List.map_append, ifL_map]
theorem rows_line {a b : List (List Nat)} {n : Nat} (hn : n ≤ 6) (h1 : a.length ≤ 1) (h2 : b.length ≤ 3 ^ n) : (rowsD a).length + (rowsD b).length ≤ sizeLine := by
  rw [show (rowsD a).length + (rowsD b).length = (a ++ b).length by rw [List.length_append]; unfold rowsD; rw [List.length_map, List.length_map]]
  exact pow_line (Nat.succ_le_succ hn) (len3 h1 h2 h2).1
theorem rows_line2 {cl : List Nat} {goal m x y : Nat} {w c : Bool} (hm : m ≤ 6) : (rowsD (ifL c [[]] ++ ifL w (wk cl goal m x))).length + (rowsD (wk cl goal m y)).length ≤ sizeLine := by
  rw [show ∀ a b : List (List Nat), (rowsD a).length + (rowsD b).length = (a ++ b).length from fun a b => by rw [List.length_append]; unfold rowsD; rw [List.length_map, List.length_map]]
  exact pow_line (Nat.succ_le_succ hm) (len3 (ifL_len (l := [[]])) (Nat.le_trans ifL_len (wk_len cl goal m _)) (wk_len cl goal m _)).2
theorem wkR_row {cl : List Nat} {goal m cell : Nat} {r : List Nat} (hm : m ≤ 6) (h : r ∈ wkR cl goal m cell) : r.length ≤ 6 := by
  rcases List.mem_append.mp h with h | h
  · rcases List.mem_append.mp h with h | h
    · cases List.mem_singleton.mp (ifL_mem h).2
      exact Nat.zero_le _
    · exact Nat.le_trans (wk_row (ifL_mem h).2) hm
  · exact Nat.le_trans (wk_row (ifL_mem h).2) hm
theorem wkR_len {cl : List Nat} {goal m cell : Nat} (hm : m ≤ 6) : (wkR cl goal m cell).length ≤ sizeLine :=
  pow_line (Nat.succ_le_succ hm) (len3 (ifL_len (l := [[]])) (Nat.le_trans ifL_len (wk_len cl goal m _)) (Nat.le_trans ifL_len (wk_len cl goal m _))).2
section
variable {c : Cx} {k0 : Nat} {cl : List Nat} {goal : Nat}
def WkAt (c : Cx) (k0 : Nat) (cl : List Nat) (goal m cell : Nat) : Prop := ∀ S, FN c k0 (Str.ofString "_law_walks") [.d (.int (cell : Int)), .d (.int (goal : Int)), .d (rowD cl)] S (.d (.list (rowsD (wk cl goal m cell))), S)
theorem walks_step {m cell : Nat} (hm : m ≤ 6) (r1 : cell % 4 < goal % 4 → WkAt c k0 cl goal m (cell + 1)) (r4 : cell / 4 < goal / 4 → WkAt c k0 cl goal m (cell + 4)) : WkAt c (k0 + 1) cl goal (m + 1) cell := fun S => by
  have u := fun {zf} => fn_of (k := k0) (S := S) (z := (.d (.list (rowsD (wk cl goal (m + 1) cell))), S)) (zf := zf) (u_walks c) (g_walks c) (k_walks c) (vs := [.d (.int (cell : Int)), .d (.int (goal : Int)), .d (rowD cl)]) rfl
  unfold wk at u ⊢
  cases h0 : cl.contains cell with
  | true =>
    rw [h0] at u
    exact u (EX.c (x_ifr (t_cmp (e_name (by kernel_rfl) rfl) (e_name (by kernel_rfl) rfl) rfl (in_cs.trans (congrArg some h0))) (x_return (e_list v_nil rfl (Nat.zero_le _))))) lv_d0
  | false =>
    rw [h0] at u
    have hr := fun r (m : r ∈ wkR cl goal m cell) => show r.length ≤ 6 from wkR_row hm m
    refine u (EX.c (x_skip (t_cmp (e_name (by kernel_rfl) rfl) (e_name (by kernel_rfl) rfl) rfl (in_cs.trans (congrArg some h0))) (x_asg (v := .ref S.length) (S1 := S ++ [.list (rowsD (ifL (decide (cell = goal)) [[]]))]) (by kernel_rfl) (fun _ => rfl) ?_ (x_ifadd (by kernel_rfl) rfl (t_cmp (e_modN (k := 4) (by decide) (e_name (by kernel_rfl) rfl)) (e_modN (k := 4) (by decide) (e_name (by kernel_rfl) rfl)) rfl (lt_at rfl)) (fun h => e_fn (by kernel_rfl) (v_cons rfl (e_bin (md := false) (e_name (by kernel_rfl) rfl) (e_const rfl) rfl) (v_cons rfl (e_name (by kernel_rfl) rfl) (v_cons rfl (e_name (by kernel_rfl) rfl) v_nil))) (r1 (of_decide_eq_true h) _)) (rows_line hm (ifL_len (l := [[]])) (wk_len cl goal m (cell + 1))) ?_)))) (lv_wk (m := .list (rowsD (wkR cl goal m cell))))
    · refine e_if (w := decide (cell = goal)) (t_cmp (e_name (by kernel_rfl) rfl) (e_name (by kernel_rfl) rfl) rfl (eq_at rfl)) ?_
      cases decide (cell = goal)
      · exact e_listM v_nil rfl (Nat.zero_le _)
      · exact e_listM (v_cons rfl (e_list v_nil rfl (Nat.zero_le _)) v_nil) rfl (Nat.le_of_ble_eq_true rfl)
    rw [rows_add]
    refine x_ifadd (by kernel_rfl) rfl (t_cmp (e_div4 (e_name (by kernel_rfl) rfl)) (e_div4 (e_name (by kernel_rfl) rfl)) rfl (lt_at rfl)) (fun h => e_fn (by kernel_rfl) (v_cons rfl (e_bin (md := false) (e_name (by kernel_rfl) rfl) (e_const rfl) rfl) (v_cons rfl (e_name (by kernel_rfl) rfl) (v_cons rfl (e_name (by kernel_rfl) rfl) v_nil))) (r4 (of_decide_eq_true h) _)) (rows_line2 hm) ?_
    rw [rows_add]
    refine x_return (?_ : EV _ _ _ _ (.d (.list (rowsD ((wkR cl goal m cell).map (cell :: ·)))), S ++ [.list (rowsD (wkR cl goal m cell))]))
    unfold rowsD
    rw [List.map_map]
    refine e_comp (c_map (md := false) (u := some (S.length, _)) (xs := [(Str.ofString "row")]) (L := wkR cl goal m cell) (d := rowD) (h := rowD ∘ (cell :: ·)) (v := fun r => [.d (rowD r)]) (by kernel_rfl) (by kernel_rfl) (src_plain (fun _ _ => rfl) (e_name (by kernel_rfl) rfl) (.ref get_last rfl)) (fun p _ => .name (by kernel_rfl)) (wkR_len hm) fun r hr' => ?_)
    exact e_lcat (e_list (v_cons rfl (e_name (by kernel_rfl) rfl) v_nil) rfl (Nat.le_of_ble_eq_true rfl)) (e_name (by kernel_rfl) rfl) rfl (le_line (Nat.le_trans (Nat.add_le_add_left (eqLe (List.length_map _) (hr r hr')) _) (show 1 + 6 ≤ 16000 by decide)))
def far (goal cell : Nat) : Nat := (goal % 4 - cell % 4) + (goal / 4 - cell / 4)
theorem far_step : ∀ goal < 16, ∀ cell < 16, (cell % 4 < goal % 4 → far goal (cell + 1) + 1 = far goal cell ∧ cell + 1 < 16) ∧ (cell / 4 < goal / 4 → far goal (cell + 4) + 1 = far goal cell ∧ cell + 4 < 16) := by decide +kernel
theorem v_walks (cl : List Nat) (goal k0 : Nat) (hg : goal < 16) : ∀ (m cell : Nat), cell < 16 → far goal cell ≤ m → m ≤ 6 → WkAt c (k0 + m + 1) cl goal (m + 1) cell
  | 0, cell, hc, hf, hm => walks_step hm (fun h => absurd (((far_step goal hg cell hc).1 h).1 ▸ hf) (Nat.not_succ_le_zero _)) (fun h => absurd (((far_step goal hg cell hc).2 h).1 ▸ hf) (Nat.not_succ_le_zero _))
  | m + 1, cell, hc, hf, hm => walks_step hm (fun h => v_walks cl goal k0 hg m _ ((far_step goal hg cell hc).1 h).2 (Nat.le_of_succ_le_succ (eqLe ((far_step goal hg cell hc).1 h).1 hf)) (Nat.le_of_succ_le hm)) (fun h => v_walks cl goal k0 hg m _ ((far_step goal hg cell hc).2 h).2 (Nat.le_of_succ_le_succ (eqLe ((far_step goal hg cell hc).2 h).1 hf)) (Nat.le_of_succ_le hm))
end
def signsD (sn : Nat → Nat) : List D := (List.range 16).map fun c => PyData.str (sg (sn c))
def dif (cs : List Nat) (i : Nat) : Int := ((cs.getD (i + 1) 0 : Nat) : Int) - ((cs.getD i 0 : Nat) : Int)
def diffs (cs : List Nat) : List Int := (List.range (cs.length - 1)).map (dif cs)
def bl (st : Int) : Str := if st = 4 then spS else emptyS
def nextB (c : Nat) : List Nat → Str
  | [] => emptyS
  | d :: _ => bl ((d : Int) - (c : Int))
def pcsFrom (sn : Nat → Nat) : Str → List Nat → List (Str × Str)
  | _, [] => []
  | b, c :: r => (b, sg (sn c)) :: pcsFrom sn (nextB c r) r
theorem diffs_cons (c d : Nat) (r : List Nat) : diffs (c :: d :: r) = ((d : Int) - (c : Int)) :: diffs (d :: r) := by
  show (List.range (r.length + 1)).map _ = _
  rw [List.range_succ_eq_map, List.map_cons, List.map_map]
  rfl
theorem pcsFrom_zip (sn : Nat → Nat) : ∀ (r : List Nat) (st : Int), (List.zip (st :: diffs r) r).map (fun p => (bl p.1, sg (sn p.2))) = pcsFrom sn (bl st) r
  | [], _ => rfl
  | [_], _ => rfl
  | c :: d :: r, st => by
    rw [diffs_cons, List.zip_cons_cons, List.map_cons, pcsFrom_zip sn (d :: r)]
    rfl
theorem csD_at {cs : List Nat} {i : Nat} (h : i < cs.length) : (csD cs)[i]? = some (.int ((cs.getD i 0 : Nat) : Int)) := by
  unfold csD
  rw [List.getElem?_map, List.getD_eq_getElem?_getD, List.getElem?_eq_getElem h]; rfl
theorem signsD_at {sn : Nat → Nat} {c : Nat} (h : c < 16) : (signsD sn)[c]? = some (.str (sg (sn c))) := by
  unfold signsD
  rw [List.getElem?_map, List.getElem?_range h]; rfl
theorem zipD_map {α β : Type} (f : α → D) (g : β → D) : ∀ (l : List α) (m : List β), zipD (l.map f) (m.map g) = (List.zip l m).map fun p => .tuple [f p.1, g p.2]
  | [], _ => rfl
  | _ :: _, [] => rfl
  | a :: l, b :: m => congrArg (PyData.tuple [f a, g b] :: ·) (zipD_map f g l m)
theorem sub1 {n : Nat} (h : 1 ≤ n) : (n : Int) - 1 = ((n - 1 : Nat) : Int) := (Int.ofNat_sub h).symm
theorem zipN {n : Nat} (h : 1 ≤ n) : min (n - 1 + 1) n = n := by rw [Nat.sub_add_cancel h, Nat.min_self]
section
variable {c : Cx} {k0 : Nat} {S : Sto}
theorem fn_pieces {sn : Nat → Nat} {cs : List Nat} (hl : cs.length ≤ 100) (hc : ∀ c ∈ cs, c < 16) (hne : 1 ≤ cs.length) : FN c (k0 + 1) (Str.ofString "_law_pieces") [.d (rowD cs), .d (.list (signsD sn))] S (.d (.list (psD (pcsFrom sn emptyS cs))), S) := by
  have hL : (csD cs).length = cs.length := List.length_map _
  have hr : (List.range (cs.length - 1)).length ≤ 100 := eqLe List.length_range (Nat.le_trans (Nat.sub_le _ _) hl)
  have hd : (diffs cs).length = cs.length - 1 := (List.length_map _).trans List.length_range
  have hz : (List.zip (0 :: diffs cs) cs).length = cs.length := by rw [List.length_zip, List.length_cons, hd, zipN hne]
  have lt : ∀ {i}, i ∈ List.range (cs.length - 1) → i + 1 < cs.length := fun h => Nat.add_lt_of_lt_sub (List.mem_range.mp h)
  have small : ∀ {i}, i < cs.length → i < 4096 := fun h => Nat.lt_of_lt_of_le h (Nat.le_trans hl (by decide))
  refine fn_of (k := k0) (u_pieces c) (g_pieces c) (k_pieces c) rfl (EX.c (x_asg (v := .d (.list ((0 :: diffs cs).map .int))) (S1 := S) (by kernel_rfl) (fun _ => rfl) (e_lcat (l := [.int 0]) (m := (diffs cs).map .int) (e_list (v_cons rfl (e_const rfl) v_nil) rfl (Nat.le_of_ble_eq_true rfl)) ?_ rfl ?_) (x_return ?_))) lv_d0
  · unfold diffs
    rw [List.map_map]
    refine e_comp (c_map (md := false) (xs := [(Str.ofString "place")]) (L := List.range (cs.length - 1)) (d := fun i => .int (i : Int)) (h := PyData.int ∘ dif cs) (v := fun i => [.d (.int (i : Int))]) (by kernel_rfl) (by kernel_rfl) (src_range (k := ((cs.length - 1 : Nat) : Int)) (by kernel_rfl) rfl (EV.int (e_bin (md := false) (e_fn (by kernel_rfl) (v_cons rfl (e_name (by kernel_rfl) rfl) v_nil) (fn_len_list (eqLe hL (le_line (Nat.le_trans hl (by decide)))))) (e_const rfl) rfl) (by rw [hL]; exact sub1 hne)) ⟨Int.natCast_nonneg _, Int.ofNat_le.mpr (Nat.le_trans (Nat.sub_le _ _) (Nat.le_trans hl (by decide)))⟩) (fun p _ => .name (by kernel_rfl)) (le_line (Nat.le_trans hr (by decide))) fun i hi => ?_)
    exact e_bin (md := false) (e_sub (e_name (by kernel_rfl) rfl) (e_bin (md := false) (e_name (by kernel_rfl) rfl) (e_const rfl) rfl) (getV_list (small (lt hi)) (csD_at (lt hi)))) (e_sub (e_name (by kernel_rfl) rfl) (e_name (by kernel_rfl) rfl) (getV_list (small (Nat.lt_of_succ_lt (lt hi))) (csD_at (Nat.lt_of_succ_lt (lt hi))))) rfl
  · rw [List.length_map, hd]
    exact le_line (Nat.le_trans (Nat.add_le_add_left (Nat.le_trans (Nat.sub_le _ _) hl) _) (show 1 + 100 ≤ 16000 by decide))
  · rw [← show bl 0 = emptyS from rfl, ← pcsFrom_zip]
    unfold psD
    rw [List.map_map]
    refine e_comp (c_map (md := false) (xs := [(Str.ofString "step"), (Str.ofString "cell")]) (L := List.zip (0 :: diffs cs) cs) (d := fun p => .tuple [.int p.1, .int (p.2 : Int)]) (h := pD ∘ fun p => (bl p.1, sg (sn p.2))) (v := fun p => [.d (.int p.1), .d (.int (p.2 : Int))]) (by kernel_rfl) (by kernel_rfl) (zipD_map PyData.int (fun (c : Nat) => PyData.int (c : Int)) _ _ ▸ src_zip (by kernel_rfl) rfl rfl (e_name (by kernel_rfl) rfl) (e_name (by kernel_rfl) rfl)) (fun p _ => .tup (.cons (.cons .nil)) (by kernel_rfl) rfl) (eqLe hz (le_line (Nat.le_trans hl (by decide)))) fun p hp => ?_)
    have hp2 : p.2 < 16 := hc _ (List.of_mem_zip (a := p.1) (b := p.2) hp).2
    refine e_tuple (vs := [.d (.str (bl p.1)), .d (.str (sg (sn p.2)))]) (v_cons rfl (e_if (w := decide (p.1 = 4)) (t_cmp (e_name (by kernel_rfl) rfl) (e_const rfl) rfl rfl) ?_) (v_cons rfl (e_sub (e_name (by kernel_rfl) rfl) (e_name (by kernel_rfl) rfl) (getV_list (Nat.lt_of_lt_of_le hp2 (by decide)) (signsD_at hp2))) v_nil)) rfl (Nat.le_of_ble_eq_true rfl)
    unfold bl
    by_cases h4 : p.1 = 4
    · rw [if_pos h4, decide_eq_true h4]
      exact (e_const rfl)
    · rw [if_neg h4, decide_eq_false h4]
      exact (e_const rfl)
end
theorem me_pop {c : Cx} {k0 : Nat} {S : Sto} {i : Nat} {l : List D} {k : Int} {x : D} (eS : S[i]? = some (.acc (l ++ [x]) k)) (hl : l.length < sizeLine) : ME c (k0 + 1) (Str.ofString "pop") (.ref i) [] S (.d x, S.set i (.acc l k)) :=
  me_f (f := 54) (o := o2x54 c.w.params) (by kernel_rfl) (by kernel_rfl) (by decide +kernel) (by kernel_rfl) rfl eS (pop_snoc eS hl)
theorem me_pop0 {c : Cx} {k0 : Nat} {S : Sto} {i : Nat} {k : Int} (eS : S[i]? = some (.acc [] k)) : ME c (k0 + 1) (Str.ofString "pop") (.ref i) [] S (.d emptyD, S) :=
  me_f (f := 54) (o := o2x54 c.w.params) (by kernel_rfl) (by kernel_rfl) (by decide +kernel) (by kernel_rfl) rfl eS (pop_nil eS)
theorem isnot_self {i : Nat} : cmpV .IsNot (.ref i) (.ref i) = some false := by
  show Option.map (!·) (if i = i then some true else none) = _
  rw [if_pos rfl]; rfl
theorem get_lt {S : Sto} {i : Nat} {m : M} (e : S[i]? = some m) : i < S.length := (List.getElem?_eq_some_iff.mp e).1
theorem app_get {S : Sto} {i : Nat} {m x : M} (e : S[i]? = some m) : (S ++ [x])[i]? = some m := (List.getElem?_append_left (get_lt e)).trans e
theorem set_back {S : Sto} {i : Nat} {m x : M} (e : S[i]? = some m) : (S.set i x).set i m = S := by
  rw [List.set_set]
  exact List.ext_getElem? fun j => by
    by_cases h : i = j
    · rw [← h, List.getElem?_set_self (get_lt e), e]
    · rw [List.getElem?_set_ne h]
theorem x_iadd {c : Cx} {k0 : Nat} {ks : List (Str × EK)} {e : En} {S : Sto} {p p1 p2 p3 p4 q t : Pos} {x : Str} {t0 call : Expr} {ss ys : List Stmt} {l0 l1 : List D} {w : Bool} {z : Fl × Sto} (kx : isVa ks x = true) (kg : isG ks (Str.ofString "iadd") = true) (hx : e x = some (.ref S.length)) (h1 : TV ⟨c, k0 + 1, ks⟩ t0 e (S ++ [.list l0]) (w, S ++ [.list l0])) (hs : isStar call = false) (h2 : w = true → EV ⟨c, k0 + 1, ks⟩ call e (S ++ [.list l0]) (.d (.list l1), S ++ [.list l0])) (hl : l0.length + l1.length ≤ sizeLine) (nx : EX ⟨c, k0 + 1, ks⟩ ss e (S ++ [.list (l0 ++ ifL w l1)]) z) : EX ⟨c, k0 + 1, ks⟩ (.If (.BoolOp .And [t0, .Compare (.Call (.Name (Str.ofString "iadd") p) [.Name x p1, call] [] q) [.IsNot] [.Name x p2] p3] p4) ys [] t :: ss) e (S ++ [.list l0]) z := by
  cases w with
  | false => exact x_skip (t_bool (a_cons (w := false) h1 rfl)) (by rwa [show l0 ++ ifL false l1 = l0 from List.append_nil _] at nx)
  | true =>
    refine x_skip (S1 := S ++ [M.list (l0 ++ l1)]) (t_bool (a_cons (w := true) h1 (a_cons (w := false) (S1 := S ++ [M.list (l0 ++ l1)]) (t_cmp (S1 := S ++ [M.list (l0 ++ l1)]) (e_fn kg (v_cons rfl (e_name kx hx) (v_cons hs (h2 rfl) v_nil)) ?_) (e_name kx hx) rfl isnot_self) rfl))) nx
    have := fn_iaddL (c := c) (k0 := k0) (get_last (S := S) (a := .list l0)) hl
    rwa [set_last] at this
def pagePs (sn : Nat → Nat) : List (Str × Str) := ((List.range 16).map fun c => (emptyS, sg (sn c))) ++ [(emptyS, emptyS), (emptyS, emptyS)]
structure Wst (S : Sto) (pt pg : Nat) (ps : List (Str × Str)) (lead : Int) (sn : Nat → Nat) : Prop where
  path : S[pt]? = some (.acc (psD ps) lead)
  page : S[pg]? = some (.acc (psD (pagePs sn)) 1)
  ne : pt ≠ pg
  few : Few ps
  lead : 0 ≤ lead ∧ lead ≤ 1000
  sn : ∀ c, c < 16 → sn c < 0x110000
theorem page_at {sn : Nat → Nat} {c : Nat} (h : c < 16) : (psD (pagePs sn))[c]? = some (pD (emptyS, sg (sn c))) := by
  unfold psD pagePs
  rw [List.getElem?_map, List.getElem?_append_left (by rw [List.length_map, List.length_range]; exact h), List.getElem?_map, List.getElem?_range h]
  rfl
theorem Few.snoc {ps : List (Str × Str)} {p : Str × Str} (h : Few ps) (hl : ps.length < 1000) (hp : p.1.length ≤ 8 ∧ p.2.length ≤ 8) : Few (ps ++ [p]) :=
  ⟨List.length_append ▸ hl, fun q m => (List.mem_append.mp m).elim (h.2 q) fun k => List.mem_singleton.mp k ▸ hp⟩
theorem psD_snoc (ps : List (Str × Str)) (p : Str × Str) : psD (ps ++ [p]) = psD ps ++ [pD p] := List.map_append
def wyL (lead : Int) (sn : Nat → Nat) (b : Str) (ps : List (Str × Str)) (rows : List (List Nat)) : List D := rows.map fun row => toldD lead (ps ++ pcsFrom sn b row)
theorem wk_head {cl : List Nat} {goal m cell : Nat} {row : List Nat} {P : List Nat → Prop} (h : row ∈ wk cl goal m cell) (k : ∀ r, P (cell :: r)) : P row := by
  cases m with
  | zero => cases h
  | succ m =>
    obtain ⟨r, _, rfl⟩ := List.mem_map.mp (ifL_mem h).2
    exact k r
theorem wk_open {cl : List Nat} {goal m cell : Nat} (h : cl.contains cell = false) : wk cl goal (m + 1) cell = (wkR cl goal m cell).map (cell :: ·) := by
  show ifL (!cl.contains cell) _ = _
  rw [h]
  rfl
section
variable {cl : List Nat} {goal m cell pt pg : Nat} {lead : Int} {sn : Nat → Nat} {b : Str} {ps : List (Str × Str)}
theorem wy_sub {x : Nat} {b' : Str} (h : bl ((x : Int) - (cell : Int)) = b') : (wk cl goal m x).map ((fun row => toldD lead (ps ++ pcsFrom sn b row)) ∘ (cell :: ·)) = wyL lead sn b' (ps ++ [(b, sg (sn cell))]) (wk cl goal m x) :=
  List.map_congr_left fun row hr => wk_head (P := fun row => toldD lead (ps ++ pcsFrom sn b (cell :: row)) = toldD lead (ps ++ [(b, sg (sn cell))] ++ pcsFrom sn b' row)) hr fun r => by
    rw [List.append_assoc, ← h]; rfl
theorem wy_step (h0 : cl.contains cell = false) : wyL lead sn b ps (wk cl goal (m + 1) cell) = ifL (decide (cell = goal)) [toldD lead (ps ++ [(b, sg (sn cell))])] ++ ifL (decide (cell % 4 < goal % 4)) (wyL lead sn emptyS (ps ++ [(b, sg (sn cell))]) (wk cl goal m (cell + 1))) ++ ifL (decide (cell / 4 < goal / 4)) (wyL lead sn spS (ps ++ [(b, sg (sn cell))]) (wk cl goal m (cell + 4))) := by
  rw [← wy_sub (show bl (((cell + 1 : Nat) : Int) - (cell : Int)) = emptyS by rw [show ((cell + 1 : Nat) : Int) - (cell : Int) = 1 by omega]; rfl), ← wy_sub (show bl (((cell + 4 : Nat) : Int) - (cell : Int)) = spS by rw [show ((cell + 4 : Nat) : Int) - (cell : Int) = 4 by omega]; rfl), wk_open h0]
  unfold wyL wkR
  rw [List.map_map, List.map_append, List.map_append, ifL_map, ifL_map, ifL_map]
  rfl
theorem wyL_len {rows : List (List Nat)} : (wyL lead sn b ps rows).length = rows.length := List.length_map _
variable {c : Cx} {k0 : Nat}
def WyAt (c : Cx) (k0 : Nat) (cl : List Nat) (goal pt pg : Nat) (lead : Int) (sn : Nat → Nat) (m cell : Nat) (b : Str) (ps : List (Str × Str)) : Prop := ∀ S, Wst S pt pg ps lead sn → FN c k0 (Str.ofString "_law_ways") [.ref pt, .ref pg, .d (.int (cell : Int)), .d (.int (goal : Int)), .d (.str b), .d (rowD cl)] S (.d (.list (wyL lead sn b ps (wk cl goal m cell))), S)
theorem ways_step (hps : ps.length ≤ 20) (hb : PyData.strOk b = true ∧ b.length ≤ 8) (hc : cell < 16) (hm : m ≤ 6) (r1 : cell % 4 < goal % 4 → WyAt c (k0 + 4) cl goal pt pg lead sn m (cell + 1) emptyS (ps ++ [(b, sg (sn cell))])) (r4 : cell / 4 < goal / 4 → WyAt c (k0 + 4) cl goal pt pg lead sn m (cell + 4) spS (ps ++ [(b, sg (sn cell))])) : WyAt c (k0 + 5) cl goal pt pg lead sn (m + 1) cell b ps := fun S W => by
  have u := fun {z zf} => fn_of (k := k0 + 4) (S := S) (z := z) (zf := zf) (u_ways c) (g_ways c) (k_ways c) (vs := [.ref pt, .ref pg, .d (.int (cell : Int)), .d (.int (goal : Int)), .d (.str b), .d (rowD cl)]) rfl
  cases h0 : cl.contains cell with
  | true =>
    rw [show wk cl goal (m + 1) cell = [] by unfold wk; rw [h0]; rfl]
    exact u (EX.c (x_ifr (t_cmp (e_name (by kernel_rfl) rfl) (e_name (by kernel_rfl) rfl) rfl (in_cs.trans (congrArg some h0))) (x_return (e_list v_nil rfl (Nat.zero_le _))))) lv_d0
  | false =>
    rw [wy_step h0]
    have hpt := get_lt W.path
    have hpl : ps.length < 1000 := Nat.lt_of_le_of_lt hps (by decide)
    have hln : (psD ps).length < sizeLine := (psD_len ps).symm ▸ Nat.lt_of_lt_of_le hpl (by decide)
    generalize hp : (b, sg (sn cell)) = p at r1 r4 ⊢
    have hok : PyData.strOk p.1 = true ∧ PyData.strOk p.2 = true := hp ▸ ⟨hb.1, sg_ok (W.sn cell hc)⟩
    have hp8 : p.1.length ≤ 8 ∧ p.2.length ≤ 8 := hp ▸ ⟨hb.2, show (sg (sn cell)).length ≤ 8 from (Nat.le_of_ble_eq_true rfl)⟩
    generalize hSS : S.set pt (.acc (psD (ps ++ [p])) lead) = SS
    have W1 : Wst SS pt pg (ps ++ [p]) lead sn := hSS ▸ ⟨List.getElem?_set_self hpt, (List.getElem?_set_ne W.ne).trans W.page, W.ne, W.few.snoc hpl hp8, W.lead, W.sn⟩
    have hSl : SS.length = S.length := hSS ▸ List.length_set
    have happ : ∀ {x : M}, Wst (SS ++ [x]) pt pg (ps ++ [p]) lead sn := fun {x} => ⟨app_get W1.path, app_get W1.page, W1.ne, W1.few, W1.lead, W1.sn⟩
    have hback : ∀ {x : M}, (SS ++ [x]).set pt (.acc (psD ps) lead) = S ++ [x] := fun {x} => by rw [List.set_append_left _ _ (hSl ▸ hpt), ← hSS, set_back W.path]
    have gi : ∀ {S'}, S'[pg]? = some (.acc (psD (pagePs sn)) 1) → FN c (k0 + 4) (Str.ofString "getitem") [.ref pg, .d (.int (cell : Int))] S' (.d (pD (emptyS, p.2)), S') := fun h => hp ▸ fn_getitem h ⟨Int.natCast_nonneg _, Int.ofNat_lt.mpr (Nat.lt_of_lt_of_le hc (by decide))⟩ (page_at hc)
    have b1 : (ifL (decide (cell = goal)) [toldD lead (ps ++ [p])]).length ≤ 1 := ifL_len
    have l1 := eqLe (wyL_len (lead := lead) (sn := sn) (b := emptyS) (ps := ps ++ [p])) (wk_len cl goal m (cell + 1))
    have l4 := eqLe (wyL_len (lead := lead) (sn := sn) (b := spS) (ps := ps ++ [p])) (wk_len cl goal m (cell + 4))
    have hb3 := len3 b1 l1 l1
    have hb4 := len3 b1 (Nat.le_trans (ifL_len (c := decide (cell % 4 < goal % 4))) l1) l4
    generalize hB : ifL (decide (cell = goal)) [toldD lead (ps ++ [p])] = B at hb3 hb4 ⊢
    refine u (zf := (.ret (.ref SS.length), S ++ [.list (B ++ ifL (decide (cell % 4 < goal % 4)) (wyL lead sn emptyS (ps ++ [p]) (wk cl goal m (cell + 1))) ++ ifL (decide (cell / 4 < goal / 4)) (wyL lead sn spS (ps ++ [p]) (wk cl goal m (cell + 4))))])) (EX.c (x_skip (t_cmp (e_name (by kernel_rfl) rfl) (e_name (by kernel_rfl) rfl) rfl (in_cs.trans (congrArg some h0))) (x_expr (S1 := SS) (fun _ => rfl) (e_me rfl (Nat.le_of_ble_eq_true rfl) rfl (e_name (by kernel_rfl) rfl) (v_cons rfl (e_name (by kernel_rfl) rfl) (v_cons rfl (e_sub (e_fn (by kernel_rfl) (v_cons rfl (e_name (by kernel_rfl) rfl) (v_cons rfl (e_name (by kernel_rfl) rfl) v_nil)) (gi W.page)) (e_const rfl) rfl) v_nil)) (fun _ h => h) ?_) (x_asg (v := .ref SS.length) (S1 := SS ++ [.list B]) (by kernel_rfl) (fun _ => rfl) ?_ (x_iadd (by kernel_rfl) (by kernel_rfl) rfl (t_cmp (e_modN (k := 4) (by decide) (e_name (by kernel_rfl) rfl)) (e_modN (k := 4) (by decide) (e_name (by kernel_rfl) rfl)) rfl (lt_at rfl)) rfl (fun h => e_fn (by kernel_rfl) (v_cons rfl (e_name (by kernel_rfl) rfl) (v_cons rfl (e_name (by kernel_rfl) rfl) (v_cons rfl (e_bin (md := false) (e_name (by kernel_rfl) rfl) (e_const rfl) rfl) (v_cons rfl (e_name (by kernel_rfl) rfl) (v_cons rfl (e_const rfl) (v_cons rfl (e_name (by kernel_rfl) rfl) v_nil)))))) (r1 (of_decide_eq_true h) _ happ)) (List.length_append ▸ pow_line (Nat.succ_le_succ hm) hb3.1) ?_))))) ?_
    · rw [← hSS, psD_snoc, ← hp]
      exact me_push W.path hln
    · rw [← hB]
      refine e_if (w := decide (cell = goal)) (t_cmp (e_name (by kernel_rfl) rfl) (e_name (by kernel_rfl) rfl) rfl (eq_at rfl)) ?_
      cases decide (cell = goal)
      · exact e_listM v_nil rfl (Nat.zero_le _)
      · exact e_listM (v_cons rfl (e_fn (by kernel_rfl) (v_cons rfl (e_name (by kernel_rfl) rfl) v_nil) (fn_told W1.path W1.few W1.lead)) v_nil) rfl (Nat.le_of_ble_eq_true rfl)
    · refine x_iadd (by kernel_rfl) (by kernel_rfl) rfl (t_cmp (e_div4 (e_name (by kernel_rfl) rfl)) (e_div4 (e_name (by kernel_rfl) rfl)) rfl (lt_at rfl)) rfl (fun h => e_fn (by kernel_rfl) (v_cons rfl (e_name (by kernel_rfl) rfl) (v_cons rfl (e_name (by kernel_rfl) rfl) (v_cons rfl (e_bin (md := false) (e_name (by kernel_rfl) rfl) (e_const rfl) rfl) (v_cons rfl (e_name (by kernel_rfl) rfl) (v_cons rfl (e_const rfl) (v_cons rfl (e_name (by kernel_rfl) rfl) v_nil)))))) (r4 (of_decide_eq_true h) _ happ)) (List.length_append ▸ pow_line (Nat.succ_le_succ hm) hb4.2) ?_
      refine x_skip (S1 := S ++ [M.list _]) (t_cmp (a := .d (pD p)) (b := .d (.tuple [.str b, .str p.2])) (S1 := S ++ [M.list _]) (e_me rfl (Nat.le_of_ble_eq_true rfl) rfl (e_name (by kernel_rfl) rfl) v_nil (fun _ h => h) ?_) (e_tuple (vs := [.d (.str b), .d (.str p.2)]) (v_cons rfl (e_name (by kernel_rfl) rfl) (v_cons rfl (e_sub (e_fn (by kernel_rfl) (v_cons rfl (e_name (by kernel_rfl) rfl) (v_cons rfl (e_name (by kernel_rfl) rfl) v_nil)) (gi (app_get W.page))) (e_const rfl) rfl) v_nil)) rfl (Nat.le_of_ble_eq_true rfl)) rfl ?_) (x_return (e_name (by kernel_rfl) rfl))
      · have := me_pop (c := c) (k0 := k0 + 3) (psD_snoc ps p ▸ (happ (x := .list (B ++ ifL (decide (cell % 4 < goal % 4)) (wyL lead sn emptyS (ps ++ [p]) (wk cl goal m (cell + 1))) ++ ifL (decide (cell / 4 < goal / 4)) (wyL lead sn spS (ps ++ [p]) (wk cl goal m (cell + 4)))))).path) hln
        rwa [hback] at this
      · have := ne_self (d := pD p) (pD_ok hok |>.mono (n := 1) (by decide))
        rwa [show pD p = .tuple [.str b, .str p.2] from hp ▸ rfl] at this ⊢
    · exact hSl ▸ lv_new
theorem v_ways (hg : goal < 16) : ∀ (m cell : Nat) (b : Str) (ps : List (Str × Str)), ps.length + m ≤ 20 → (PyData.strOk b = true ∧ b.length ≤ 8) → cell < 16 → far goal cell ≤ m → m ≤ 6 → WyAt c (k0 + m + 5) cl goal pt pg lead sn (m + 1) cell b ps
  | 0, cell, b, ps, hps, hb, hc, hf, hm => ways_step hps hb hc hm (fun h => absurd (((far_step goal hg cell hc).1 h).1 ▸ hf) (Nat.not_succ_le_zero _)) (fun h => absurd (((far_step goal hg cell hc).2 h).1 ▸ hf) (Nat.not_succ_le_zero _))
  | m + 1, cell, b, ps, hps, hb, hc, hf, hm => by
    have hp : (ps ++ [(b, sg (sn cell))]).length + m ≤ 20 := by rw [List.length_append, Nat.add_assoc]; exact Nat.add_comm 1 m ▸ hps
    have F := far_step goal hg cell hc
    exact ways_step (k0 := k0 + m + 1) (Nat.le_trans (Nat.le_add_right _ _) hps) hb hc hm
      (fun h => v_ways hg m (cell + 1) emptyS _ hp ⟨em_ok, by decide⟩ (F.1 h).2 (Nat.le_of_succ_le_succ (eqLe (F.1 h).1 hf)) (Nat.le_of_succ_le hm))
      (fun h => v_ways hg m (cell + 4) spS _ hp ⟨sp_ok, by decide⟩ (F.2 h).2 (Nat.le_of_succ_le_succ (eqLe (F.2 h).1 hf)) (Nat.le_of_succ_le hm))
end
theorem x_forK {f : Fr} {tgt x : Expr} {body ss : List Stmt} {p : Pos} {e : En} {S S1 : Sto} {l : List D} {z : Fl × Sto} (h1 : SRC f tgt x e S (l, S1, none)) (h2 : ∀ {P : Prop}, (∀ e2 S2, FG f tgt body l e S1 (.next e2, S2) → EX f ss e2 S2 z → P) → P) : EX f (.For tgt x body [] p :: ss) e S z := h2 fun _ _ a b => x_for h1 a b
abbrev nb (a : Int) : Nat := Builtin.Int.intBits a
theorem bits_lt {a : Int} : a.natAbs < 2 ^ nb a := by
  show _ < 2 ^ (if (a == 0) = true then 0 else a.natAbs.log2 + 1)
  by_cases h : a = 0
  · subst h; decide
  · rw [if_neg fun q => h (eq_of_beq q)]
    exact Nat.lt_log2_self
theorem bits_of {a : Int} {k : Nat} (h : a.natAbs < 2 ^ k) : nb a ≤ k := by
  show (if (a == 0) = true then 0 else a.natAbs.log2 + 1) ≤ k
  by_cases h0 : a = 0
  · subst h0; exact Nat.zero_le _
  · rw [if_neg fun q => h0 (eq_of_beq q)]
    exact (Nat.log2_lt fun q => h0 (Int.natAbs_eq_zero.mp q)).mpr h
theorem bits_mul (a b : Int) : nb (a * b) ≤ nb a + nb b := bits_of (by
  rw [Int.natAbs_mul, Nat.pow_add]
  exact Nat.mul_lt_mul_of_lt_of_le bits_lt (Nat.le_of_lt bits_lt) (Nat.pow_pos (by decide)))
theorem bitsLine_ge : (100000000 : Int) ≤ bitsLine := by decide +kernel
theorem mul_small {a b : Int} (h : nb a + nb b ≤ 100000000) : IntMulOk a b := by
  unfold IntMulOk
  have e : Builtin.Int.intTooBig ((nb a : Int) + (nb b : Int)) = false :=
    decide_eq_false fun q => absurd (Int.lt_of_lt_of_le q (Int.le_trans (Int.ofNat_le.mpr h) bitsLine_ge)) (Int.lt_irrefl _)
  rw [e, Bool.and_false]
  exact Bool.false_ne_true
def wv (plus minus : Int) (k : Nat) : Int := bif decide (k = 1) then plus else bif decide (k = 2) then minus else 1
theorem wv_eq {a plus minus : Int} : ∀ {k : Nat}, (bif decide (k = 2) then (bif decide (k = 1) then a * plus else a) * minus else bif decide (k = 1) then a * plus else a) = a * wv plus minus k
  | 0 => (Int.mul_one a).symm
  | 1 => rfl
  | 2 => rfl
  | _ + 3 => (Int.mul_one a).symm
theorem x_ifmul {c : Cx} {k0 : Nat} {ks : List (Str × EK)} {e : En} {S : Sto} {p p1 p2 p3 p4 q t : Pos} {x y : Str} {t0 : Expr} {ss : List Stmt} {a b : Int} {w : Bool} {z : Fl × Sto} (kx : isVa ks x = true) (ky : isVa ks y = true) (kg : isG ks (Str.ofString "imul") = true) (hx : e x = some (.d (.int a))) (hy : e y = some (.d (.int b))) (h1 : TV ⟨c, k0 + 1, ks⟩ t0 e S (w, S)) (h2 : w = true → IntMulOk a b) (nx : EX ⟨c, k0 + 1, ks⟩ ss (put x (.d (.int (bif w then a * b else a))) e) S z) : EX ⟨c, k0 + 1, ks⟩ (.If t0 [.Assign [.Name x p] (.Call (.Name (Str.ofString "imul") p1) [.Name x p2, .Name y p3] [] q) p4] [] t :: ss) e S z := by
  cases w with
  | false => exact x_skip h1 (by rwa [show put x (.d (.int (bif false then a * b else a))) e = e from put_id hx] at nx)
  | true => exact x_if h1 (x_asg kx (fun _ => rfl) (e_fn kg (v_cons rfl (e_name kx hx) (v_cons rfl (e_name ky hy) v_nil)) (fn_imul (h2 rfl))) x_nil) nx
structure Rd (e : En) (st ce mask worth plus minus : Int) : Prop where
  st : e (Str.ofString "step") = some (.d (.int st))
  ce : e (Str.ofString "cell") = some (.d (.int ce))
  mask : e (Str.ofString "mask") = some (.d (.int mask))
  worth : e (Str.ofString "worth") = some (.d (.int worth))
  plus : e (Str.ofString "plus") = some (.d (.int plus))
  minus : e (Str.ofString "minus") = some (.d (.int minus))
abbrev ks28 : List (Str × EK) := ksOf (fScope (top 28))
def rdBody : List Stmt := match (fBody (top 28)) with
  | [_, .For _ _ b _ _, _] => b
  | _ => []
def rdTgt : Expr := match (fBody (top 28)) with
  | [_, .For t _ _ _ _, _] => t
  | _ => .Constant .none 0 default
section
variable {c : Cx} {k0 : Nat} {S : Sto} {e : En} {st ce mask worth plus minus : Int}
theorem rd_blank (hs : e (Str.ofString "sign") = some (.d (.str (sg 32)))) : EX ⟨c, k0 + 1, ks28⟩ rdBody e S (.next (put (Str.ofString "step") (.d (.int 4)) e), S) :=
  x_if (c := true) (t_call (e_fn (by kernel_rfl) (v_cons rfl (e_name (by kernel_rfl) hs) v_nil) (fn_c11 (by decide))) rfl) (x_asg (by kernel_rfl) (fun _ => rfl) (e_const rfl) x_nil) x_nil
def rdE (e : En) (ce mask worth plus minus : Int) (kc : Nat) : En := put (Str.ofString "step") (.d (.int 1)) (put (Str.ofString "worth") (.d (.int (bif decide (kc = 2) then (bif decide (kc = 1) then worth * plus else worth) * minus else bif decide (kc = 1) then worth * plus else worth))) (put (Str.ofString "worth") (.d (.int (bif decide (kc = 1) then worth * plus else worth))) (put (Str.ofString "mask") (.d (.int (Builtin.bitOr mask (1 * 2 ^ ce.toNat)))) (put (Str.ofString "cell") (.d (.int ce)) e))))
theorem rdE_rd {kc : Nat} (h : Rd e st ce mask worth plus minus) {ce' : Int} : Rd (rdE e ce' mask worth plus minus kc) 1 ce' (Builtin.bitOr mask (1 * 2 ^ ce'.toNat)) (worth * wv plus minus kc) plus minus :=
  ⟨rfl, rfl, rfl, wv_eq ▸ rfl, h.plus, h.minus⟩
theorem big27_ge : (1 : Int) + 100 ≤ big27 := by decide +kernel
theorem rd_sign {x kc B : Nat} (h : Rd e st ce mask worth plus minus) (hs : e (Str.ofString "sign") = some (.d (.str (sg x)))) (X : SignIs x kc) (hc : 0 ≤ ce + st ∧ ce + st ≤ 100) (hB : nb worth + B ≤ 100000000) (hp : nb plus ≤ B) (hm : nb minus ≤ B) : EX ⟨c, k0 + 1, ks28⟩ rdBody e S (.next (rdE e (ce + st) mask worth plus minus kc), S) := by
  have t : ∀ {g : Str} {w : Bool} {e1 : En} {q1 q2 q3 : Pos}, isG ks28 g = true → e1 (Str.ofString "sign") = some (.d (.str (sg x))) → FN c (k0 + 1) g [.d (.str (sg x))] S (.d (.bool w), S) → TV ⟨c, k0 + 1, ks28⟩ (.Call (.Name g q1) [.Name (Str.ofString "sign") q2] [] q3) e1 S (w, S) := fun g1 g2 g3 => t_call (e_fn g1 (v_cons rfl (e_name (by kernel_rfl) g2) v_nil) g3) rfl
  refine x_if (c := false) (t (by kernel_rfl) hs (decide_eq_false X.ne ▸ fn_c11 X.lt)) (x_asg (by kernel_rfl) (fun _ => rfl) (e_fn (by kernel_rfl) (v_cons rfl (e_name (by kernel_rfl) h.ce) (v_cons rfl (e_name (by kernel_rfl) h.st) v_nil)) fn_iadd) (x_asg (by kernel_rfl) (fun _ => rfl) (e_fn (by kernel_rfl) (v_cons rfl (e_name (by kernel_rfl) h.mask) (v_cons rfl (e_fn (by kernel_rfl) (v_cons rfl (e_const rfl) (v_cons rfl (e_name (by kernel_rfl) rfl) v_nil)) (fn_ilshift ⟨hc.1, ?_⟩)) v_nil)) fn_ior) (x_ifmul (by kernel_rfl) (by kernel_rfl) (by kernel_rfl) h.worth h.plus (t (by kernel_rfl) hs (X.c8 ▸ fn_c8)) (fun _ => mul_small (Nat.le_trans (Nat.add_le_add_left hp _) hB)) (x_ifmul (by kernel_rfl) (by kernel_rfl) (by kernel_rfl) rfl h.minus (t (by kernel_rfl) hs (X.c9 ▸ fn_c9)) (fun q => ?_) (x_asg (by kernel_rfl) (fun _ => rfl) (e_const rfl) x_nil))))) x_nil
  · exact Int.le_trans (Int.add_le_add_left hc.2 1) big27_ge
  · rw [of_decide_eq_true q]
    exact mul_small (Nat.le_trans (Nat.add_le_add_left hm _) hB)
end
def chain : List Nat → Prop
  | [] => True
  | [c] => c < 16
  | c :: d :: r => c < 16 ∧ (d = c + 1 ∨ d = c + 4) ∧ chain (d :: r)
theorem chain_hd {c : Nat} : ∀ {r : List Nat}, chain (c :: r) → c < 16 ∧ chain r
  | [], h => ⟨h, trivial⟩
  | _ :: _, h => ⟨h.1, h.2.2⟩
theorem chain_lt : ∀ {row : List Nat}, chain row → ∀ c ∈ row, c < 16
  | x :: r, hc, c, h => (List.mem_cons.mp h).elim (fun q => q ▸ (chain_hd hc).1) (chain_lt (chain_hd hc).2 c)
theorem pcL_em (x : Nat) : pcL (emptyS, sg x) = [x] := rfl
theorem pcL_sp (x : Nat) : pcL (spS, sg x) = [32, x] := rfl
def maskF (row : List Nat) (m : Int) : Int := row.foldl (fun m c => Builtin.bitOr m (1 * 2 ^ c)) m
def worthF (w : Nat → Int) (row : List Nat) (x : Int) : Int := row.foldl (fun x c => x * w c) x
theorem bl_4 {a b : Nat} (h : a = b + 4) : bl ((a : Int) - (b : Int)) = spS := by rw [show (a : Int) - (b : Int) = 4 by omega]; rfl
theorem bl_1 {a b : Nat} (h : a = b + 1) : bl ((a : Int) - (b : Int)) = emptyS := by rw [show (a : Int) - (b : Int) = 1 by omega]; rfl
theorem wv_bits {plus minus : Int} {B : Nat} (hp : nb plus ≤ B) (hm : nb minus ≤ B) (h1 : 1 ≤ B) : ∀ {kc : Nat}, nb (wv plus minus kc) ≤ B
  | 0 => h1
  | 1 => hp
  | 2 => hm
  | _ + 3 => h1
section
variable {c : Cx} {k0 : Nat} {S : Sto} {plus minus : Int} {sn kd : Nat → Nat} {B : Nat} {P : Prop}
def rdL (sn : Nat → Nat) (b : Str) (row : List Nat) : List D := (txtL (pcsFrom sn b row)).map fun c => PyData.str (sg c)
theorem rd_row (SO : ∀ c, c < 16 → SignIs (sn c) (kd c)) (hp : nb plus ≤ B) (hm : nb minus ≤ B) (hB1 : 1 ≤ B) : ∀ (row : List Nat) (b : Str) (e : En) (st ce mask worth : Int), Rd e st ce mask worth plus minus → chain row → (∀ c r', row = c :: r' → (b = spS ∧ (c : Int) = ce + 4) ∨ (b = emptyS ∧ (c : Int) = ce + st)) → nb worth + (row.length + 1) * B ≤ 100000000 →
    (∀ e', e' (Str.ofString "mask") = some (.d (.int (maskF row mask))) → e' (Str.ofString "worth") = some (.d (.int (worthF (fun c => wv plus minus (kd c)) row worth))) → FG ⟨c, k0 + 1, ks28⟩ rdTgt rdBody (rdL sn b row) e S (.next e', S) → P) → P
  | [], b, e, st, ce, mask, worth, h, _, _, _, nx => nx e h.mask h.worth .nil
  | x :: row, b, e, st, ce, mask, worth, h, hch, hb, hbits, nx => by
    have hx := (chain_hd hch).1
    have X := SO x hx
    have e0 : (row.length + 1 + 1) * B = (row.length + 1) * B + B := Nat.succ_mul _ _
    have e1 : nb worth + ((row.length + 1) * B + B) ≤ 100000000 := e0 ▸ hbits
    have hw : nb worth + B ≤ 100000000 := Nat.le_trans (Nat.add_le_add_left (Nat.le_add_left _ _) _) e1
    have hw2 : nb (worth * wv plus minus (kd x)) + (row.length + 1) * B ≤ 100000000 := Nat.le_trans (Nat.add_le_add_right (Nat.le_trans (bits_mul _ _) (Nat.add_le_add_left (wv_bits hp hm hB1) _)) _) (by rw [Nat.add_assoc, Nat.add_comm B]; exact e1)
    have hx1 : (0 : Int) ≤ (x : Int) ∧ (x : Int) ≤ 100 := ⟨Int.natCast_nonneg _, Int.ofNat_le.mpr (Nat.le_trans (Nat.le_of_lt hx) (by decide))⟩
    have rest : ∀ {e2 : En} {st2 ce2 : Int}, Rd e2 st2 ce2 mask worth plus minus → e2 (Str.ofString "sign") = some (.d (.str (sg (sn x)))) → (x : Int) = ce2 + st2 → (∀ e' E, e' (Str.ofString "mask") = some (.d (.int (maskF (x :: row) mask))) → e' (Str.ofString "worth") = some (.d (.int (worthF (fun c => wv plus minus (kd c)) (x :: row) worth))) → EX ⟨c, k0 + 1, ks28⟩ rdBody e2 S (.next E, S) → FG ⟨c, k0 + 1, ks28⟩ rdTgt rdBody (rdL sn (nextB x row) row) E S (.next e', S) → P) → P := fun {e2 st2 ce2} h2 hs hce k => by
      have hr : Rd (rdE e2 (x : Int) mask worth plus minus (kd x)) 1 (x : Int) (Builtin.bitOr mask (1 * 2 ^ x)) (worth * wv plus minus (kd x)) plus minus := rdE_rd h2
      refine rd_row SO hp hm hB1 row (nextB x row) _ 1 (x : Int) _ _ hr (chain_hd hch).2 (fun d r' hd => ?_) hw2 fun e' m w fg => k e' _ m w (hce ▸ rd_sign h2 hs X (hce ▸ hx1) hw hp hm) fg
      subst hd
      exact hch.2.1.elim (fun q => .inr ⟨bl_1 q, congrArg Int.ofNat q⟩) (fun q => .inl ⟨bl_4 q, congrArg Int.ofNat q⟩)
    rcases hb x row rfl with ⟨rfl, hce⟩ | ⟨rfl, hce⟩
    · exact rest (e2 := put (Str.ofString "sign") (.d (.str (sg (sn x)))) (put (Str.ofString "step") (.d (.int 4)) (put (Str.ofString "sign") (.d (.str (sg 32))) e))) (st2 := 4) (ce2 := ce) ⟨rfl, h.ce, h.mask, h.worth, h.plus, h.minus⟩ rfl hce fun e' E m w ex fg => nx e' m w (.next (.name (by kernel_rfl)) (rd_blank rfl) (.next (.name (by kernel_rfl)) ex fg))
    · exact rest (e2 := put (Str.ofString "sign") (.d (.str (sg (sn x)))) e) (st2 := st) (ce2 := ce) ⟨h.st, h.ce, h.mask, h.worth, h.plus, h.minus⟩ rfl hce fun e' E m w ex fg => nx e' m w (.next (.name (by kernel_rfl)) ex fg)
theorem fn_read (SO : ∀ c, c < 16 → SignIs (sn c) (kd c)) (hp : nb plus ≤ B) (hm : nb minus ≤ B) (hB1 : 1 ≤ B) (hB : B ≤ 2000000) {start : Nat} {r : List Nat} (hch : chain (start :: r)) (hl : r.length ≤ 19) : FN c (k0 + 2) (Str.ofString "_law_read") [.d (.str (ofL (txtL (pcsFrom sn emptyS (start :: r))))), .d (.int (start : Int)), .d (.int plus), .d (.int minus)] S (.d (.tuple [.int (maskF (start :: r) 0), .int (worthF (fun c => wv plus minus (kd c)) (start :: r) 1)]), S) := by
  refine fn_of (k := k0 + 1) (u_read c) (g_read c) (k_read c) rfl (EX.c (x_tup (vs := [.d (.int 0), .d (.int 0), .d (.int 1)]) (.cons (.cons (.cons .nil))) (by kernel_rfl) (v_cons rfl (e_const rfl) (v_cons rfl (e_const rfl) (v_cons rfl (e_const rfl) v_nil))) (by kernel_rfl) rfl (x_forK (src_plain (fun _ _ => rfl) (e_name (by kernel_rfl) rfl) (.str _)) fun {P} k => rd_row (k0 := k0) (c := c) (S := S) SO hp hm hB1 (start :: r) emptyS _ 0 start 0 1 ⟨rfl, rfl, rfl, rfl, rfl, rfl⟩ hch (fun c r' hc => .inr ⟨rfl, ?_⟩) ?_ fun e' h1 h2 fg => k e' S fg (x_return (e_tuple (v_cons rfl (e_name (by kernel_rfl) h1) (v_cons rfl (e_name (by kernel_rfl) h2) v_nil)) rfl (Nat.le_of_ble_eq_true rfl)))))) lv_d0
  · cases hc
    exact (Int.add_zero _).symm
  · exact Nat.le_trans (Nat.add_le_add_left (Nat.mul_le_mul (Nat.succ_le_succ (Nat.succ_le_succ hl)) hB) 1) (by decide)
end
theorem getV_ref {S : Sto} {i j : Nat} {l : List D} {x : D} (eS : S[i]? = some (.list l)) (hj : j < 4096) (hx : l[j]? = some x) : getV (.ref i) (.d (.int (j : Int))) S = some (.d x) := by
  show (S[i]? >>= M.its) >>= (fun l => itemD l j) = _
  rw [eS]
  show (if 0 ≤ (j : Int) ∧ (j : Int) < 4096 then (l[j]?).map Val.d else none) = _
  rw [if_pos ⟨Int.natCast_nonneg _, Int.ofNat_lt.mpr hj⟩, hx]; rfl
theorem gt_at {a b : Nat} {w : Bool} (h : decide (b < a) = w) : cmpV .Gt (.d (.int (a : Int))) (.d (.int (b : Int))) = some w := congrArg some ((decide_eq_decide.mpr Int.ofNat_lt).trans h)
theorem e_mul {f : Fr} {e : En} {S S1 S2 : Sto} {x y : Expr} {p : Pos} {a b : Int} (h1 : EV f x e S (.d (.int a), S1)) (h2 : EV f y e S1 (.d (.int b), S2)) (h : IntMulOk a b) : EV f (.BinOp x .Mult y p) e S (.d (.int (a * b)), S2) :=
  e_bin (md := false) h1 h2 (by
    show ((if IntMulOk a b then some (a * b) else none).map PyData.int).map (fun z => (Val.d z, S2)) = _
    rw [if_pos h]; rfl)
def dpT (w : Nat → Int) (start : Nat) : Nat → Nat → Int
  | 0, _ => 0
  | n + 1, i => if i = n then w n * (if n = start then 1 else (if n > 3 then dpT w start n (n - 4) else 0) + (if n % 4 > 0 then dpT w start n (n - 1) else 0)) else dpT w start n i
def dp (w : Nat → Int) (start goal : Nat) : Int := dpT w start 16 goal
section
variable {w : Nat → Int} {start B : Nat}
theorem dpT_lt {n : Nat} : ∀ {m : Nat}, n < m → dpT w start m n = dpT w start (n + 1) n
  | m + 1, h => by
    by_cases e : n = m
    · rw [e]
    · exact (if_neg e).trans (dpT_lt (Nat.lt_of_le_of_ne (Nat.le_of_lt_succ h) e))
theorem dp_eq {n : Nat} (h : n < 16) : dp w start n = w n * (if n = start then 1 else (if n > 3 then dp w start (n - 4) else 0) + (if n % 4 > 0 then dp w start (n - 1) else 0)) := by
  have k : ∀ {m : Nat}, m < n → dp w start m = dpT w start n m := fun q => (dpT_lt (Nat.lt_trans q h)).trans (dpT_lt q).symm
  refine ((dpT_lt h).trans (if_pos rfl)).trans (congrArg (w n * ·) ?_)
  congr 2
  · by_cases q : n > 3
    · rw [if_pos q, if_pos q, k (Nat.sub_lt (Nat.lt_of_le_of_lt (Nat.zero_le _) q) (by decide))]
    · rw [if_neg q, if_neg q]
  · by_cases q : n % 4 > 0
    · rw [if_pos q, if_pos q, k (Nat.sub_lt (Nat.lt_of_lt_of_le q (Nat.mod_le _ _)) (by decide))]
    · rw [if_neg q, if_neg q]
theorem bits_add {a b : Int} {k : Nat} (ha : nb a ≤ k) (hb : nb b ≤ k) : nb (a + b) ≤ k + 1 := bits_of (by
  rw [Nat.pow_succ, Nat.mul_two]
  exact Nat.lt_of_le_of_lt (Int.natAbs_add_le a b) (Nat.add_lt_add (Nat.lt_of_lt_of_le bits_lt (Nat.pow_le_pow_right (by decide) ha)) (Nat.lt_of_lt_of_le bits_lt (Nat.pow_le_pow_right (by decide) hb))))
theorem ite_le {c : Prop} [Decidable c] {a b : Int} {k : Nat} (ha : nb a ≤ k) (hb : nb b ≤ k) : nb (if c then a else b) ≤ k := by split <;> assumption
theorem dp_in {n : Nat} (ih : ∀ i, nb (dpT w start n i) ≤ n * (B + 1)) : nb (if n = start then 1 else (if n > 3 then dpT w start n (n - 4) else 0) + (if n % 4 > 0 then dpT w start n (n - 1) else 0)) ≤ n * (B + 1) + 1 :=
  ite_le (Nat.le_add_left 1 _) (bits_add (ite_le (ih _) (Nat.zero_le _)) (ite_le (ih _) (Nat.zero_le _)))
theorem dp_bits (hw : ∀ c, nb (w c) ≤ B) : ∀ n i, nb (dpT w start n i) ≤ n * (B + 1)
  | 0, _ => Nat.zero_le _
  | n + 1, i => by
    have ih := dp_bits hw n
    refine ite_le (Nat.le_trans (bits_mul _ _) (Nat.le_trans (Nat.add_le_add (hw n) (dp_in ih)) ?_)) (Nat.le_trans (ih i) (Nat.mul_le_mul_right _ (Nat.le_succ n)))
    rw [Nat.succ_mul, Nat.add_comm B, Nat.add_assoc, Nat.add_comm 1 B]
    exact Nat.le_refl _
theorem dp_mul (hB : B ≤ 2000000) (hw : ∀ c, nb (w c) ≤ B) {n : Nat} (hn : n < 16) : IntMulOk (w n) (if n = start then 1 else (if n > 3 then dpT w start n (n - 4) else 0) + (if n % 4 > 0 then dpT w start n (n - 1) else 0)) :=
  mul_small (Nat.le_trans (Nat.add_le_add (Nat.le_trans (hw n) hB) (Nat.le_trans (dp_in (dp_bits hw n)) (Nat.succ_le_succ (Nat.mul_le_mul (Nat.le_of_lt hn) (Nat.succ_le_succ hB))))) (by decide))
def sumsD (w : Nat → Int) (start n : Nat) : List D := (List.range 16).map fun i => PyData.int (dpT w start n i)
def intsL (w : Nat → Int) : List D := (List.range 16).map fun i => PyData.int (w i)
theorem map16 {g : Nat → D} {i : Nat} (h : i < 16) : ((List.range 16).map g)[i]? = some (g i) := by
  rw [List.getElem?_map, List.getElem?_range h]; rfl
theorem len16 {g : Nat → D} : ((List.range 16).map g).length = 16 := (List.length_map _).trans List.length_range
theorem sumsD_set {n : Nat} (h : n < 16) : (sumsD w start n).set n (.int (dpT w start (n + 1) n)) = sumsD w start (n + 1) :=
  List.ext_getElem? fun i => by
    unfold sumsD
    by_cases hi : n = i
    · rw [← hi, List.getElem?_set_self (by rw [len16]; exact h), map16 h]
    · rw [List.getElem?_set_ne hi]
      by_cases h16 : i < 16
      · rw [map16 h16, map16 h16]
        exact congrArg (fun x => some (PyData.int x)) (if_neg (Ne.symm hi)).symm
      · rw [List.getElem?_eq_none (eqLe len16 (Nat.le_of_not_lt h16)), List.getElem?_eq_none (eqLe len16 (Nat.le_of_not_lt h16))]
end
abbrev ks30 : List (Str × EK) := ksOf (fScope (top 30))
def woBody : List Stmt := match (fBody (top 30)) with
  | [_, .For _ _ b _ _, _] => b
  | _ => []
def woTgt : Expr := match (fBody (top 30)) with
  | [_, .For t _ _ _ _, _] => t
  | _ => .Constant .none 0 default
structure Wo (e : En) (i : Nat) (w : Nat → Int) (start goal : Nat) : Prop where
  sums : e (Str.ofString "sums") = some (.ref i)
  worths : e (Str.ofString "worths") = some (.d (.list (intsL w)))
  start : e (Str.ofString "start") = some (.d (.int (start : Int)))
  goal : e (Str.ofString "goal") = some (.d (.int (goal : Int)))
section
variable {c : Cx} {k0 : Nat} {S : Sto} {w : Nat → Int} {start goal B : Nat} {P : Prop}
def woE (w : Nat → Int) (start n : Nat) (e : En) : En := put (Str.ofString "beside") (.d (.int (if n % 4 > 0 then dpT w start n (n - 1) else 0))) (put (Str.ofString "above") (.d (.int (if n > 3 then dpT w start n (n - 4) else 0))) e)
theorem wo_cell {e : En} {n : Nat} (hB : B ≤ 2000000) (hw : ∀ c, nb (w c) ≤ B) (hn : n < 16) (h : Wo e S.length w start goal) (hc : e (Str.ofString "cell") = some (.d (.int (n : Int)))) : EX ⟨c, k0, ks30⟩ woBody e (S ++ [.list (sumsD w start n)]) (.next (woE w start n e), S ++ [.list (sumsD w start (n + 1))]) := by
  have l4 : ∀ {m : Nat}, m < 16 → m < 4096 := fun h => Nat.lt_of_lt_of_le h (by decide)
  have rd : ∀ {e1 : En} {k : Nat} {kk : Nat} {p q r t s : Pos}, e1 (Str.ofString "sums") = some (.ref S.length) → e1 (Str.ofString "cell") = some (.d (.int (n : Int))) → k ≤ n → EV ⟨c, k0, ks30⟩ (.Subscript (.Name (Str.ofString "sums") p) (.BinOp (.Name (Str.ofString "cell") q) .Sub (.Constant (.int (k : Int)) kk t) r) s) e1 (S ++ [.list (sumsD w start n)]) (.d (.int (dpT w start n (n - k))), S ++ [.list (sumsD w start n)]) := fun v1 v2 hk =>
    e_sub (e_name (by kernel_rfl) v1) (EV.int (e_bin (md := false) (e_name (by kernel_rfl) v2) (e_const rfl) rfl) (Int.ofNat_sub hk).symm) (getV_ref get_last (l4 (Nat.lt_of_le_of_lt (Nat.sub_le _ _) hn)) (map16 (Nat.lt_of_le_of_lt (Nat.sub_le _ _) hn)))
  have pick : ∀ {e1 : En} {t x y : Expr} {p : Pos} {q : Prop} [Decidable q] {a b : Int} {S' : Sto}, TV ⟨c, k0, ks30⟩ t e1 S' (decide q, S') → (q → EV ⟨c, k0, ks30⟩ x e1 S' (.d (.int a), S')) → EV ⟨c, k0, ks30⟩ y e1 S' (.d (.int b), S') → EV ⟨c, k0, ks30⟩ (.IfExp t x y p) e1 S' (.d (.int (if q then a else b)), S') := fun {_ _ _ _ _ q _ _ _ _} h1 h2 h3 => by
    by_cases h : q
    · rw [if_pos h]; rw [decide_eq_true h] at h1; exact e_if (w := true) h1 (h2 h)
    · rw [if_neg h]; rw [decide_eq_false h] at h1; exact e_if (w := false) h1 h3
  refine x_asg (by kernel_rfl) (fun _ => rfl) (pick (t_cmp (e_name (by kernel_rfl) hc) (e_const rfl) rfl (gt_at (b := 3) rfl)) (rd h.sums hc) (e_const rfl)) (x_asg (by kernel_rfl) (fun _ => rfl) (pick (t_cmp (e_modN (k := 4) (by decide) (e_name (by kernel_rfl) hc)) (e_const rfl) rfl (gt_at (b := 0) rfl)) (fun q => rd h.sums hc (Nat.le_trans q (Nat.mod_le _ _))) (e_const rfl)) (x_item (S1 := S ++ [.list (sumsD w start n)]) (l := sumsD w start n) (d := .int (dpT w start (n + 1) n)) (by kernel_rfl) h.sums (by kernel_rfl) hc (fun _ _ => rfl) ?_ get_last ⟨Int.natCast_nonneg _, Int.ofNat_lt.mpr (l4 hn), len16.symm ▸ hn⟩ ?_))
  · rw [show dpT w start (n + 1) n = _ from if_pos rfl]
    exact e_mul (e_sub (e_name (by kernel_rfl) h.worths) (e_name (by kernel_rfl) hc) (getV_list (l4 hn) (map16 hn))) (pick (t_cmp (e_name (by kernel_rfl) hc) (e_name (by kernel_rfl) h.start) rfl (eq_at rfl)) (fun _ => (e_const rfl)) (e_bin (md := false) (e_name (by kernel_rfl) rfl) (e_name (by kernel_rfl) rfl) rfl)) (dp_mul hB hw hn)
  · have : (sumsD w start n).set (n : Int).toNat (.int (dpT w start (n + 1) n)) = sumsD w start (n + 1) := sumsD_set hn
    rw [set_last, this]
    exact x_nil
theorem wo_loop (hB : B ≤ 2000000) (hw : ∀ c, nb (w c) ≤ B) : ∀ (m n : Nat) (e : En), n + m = 16 → Wo e S.length w start goal → (∀ e1, Wo e1 S.length w start goal → FG ⟨c, k0, ks30⟩ woTgt woBody ((List.range' n m).map fun (i : Nat) => PyData.int (i : Int)) e (S ++ [.list (sumsD w start n)]) (.next e1, S ++ [.list (sumsD w start 16)]) → P) → P
  | 0, n, e, hn, h, nx => nx e h ((show n = 16 from hn) ▸ .nil)
  | m + 1, n, e, hn, h, nx => wo_loop hB hw m (n + 1) (woE w start n (put (Str.ofString "cell") (.d (.int (n : Int))) e)) (by rw [← hn, Nat.add_assoc, Nat.add_comm 1]) ⟨h.sums, h.worths, h.start, h.goal⟩ fun e1 h1 fg => nx e1 h1 (by
    rw [List.range'_succ]
    exact .next (.name (by kernel_rfl)) (wo_cell hB hw (by rw [← hn]; exact Nat.lt_add_of_pos_right (Nat.succ_pos m)) ⟨h.sums, h.worths, h.start, h.goal⟩ rfl) fg)
theorem fn_worth (hB : B ≤ 2000000) (hw : ∀ c, nb (w c) ≤ B) (hg : goal < 16) : FN c (k0 + 1) (Str.ofString "_law_worth") [.d (.int (start : Int)), .d (.int (goal : Int)), .d (.list (intsL w))] S (.d (.int (dp w start goal)), S) :=
  fn_of (k := k0) (u_worth c) (g_worth c) (k_worth c) rfl (EX.c (x_asg (v := .ref S.length) (S1 := S ++ [.list (sumsD w start 0)]) (by kernel_rfl) (fun _ => rfl) (e_bin (md := true) (e_list (v_cons rfl (e_const rfl) v_nil) rfl (Nat.le_of_ble_eq_true rfl)) (e_const rfl) rfl) (x_forK (src_range (k := 16) (by kernel_rfl) rfl (e_const rfl) ⟨by decide, by decide⟩) fun {P} k => wo_loop hB hw 16 0 _ rfl ⟨rfl, rfl, rfl, rfl⟩ fun e' h' fg => k e' _ fg (x_return (e_sub (e_name (by kernel_rfl) h'.sums) (e_name (by kernel_rfl) h'.goal) (getV_ref get_last (Nat.lt_of_lt_of_le hg (by decide)) (map16 hg))))))) lv_wk
end
theorem picks_tail : ∀ n : Nat, n < 21 → ∀ j : Nat, j < 21 → j ≤ n → picks n (some (j : Int)) none none = List.range' j (n - j) := by decide +kernel
theorem stOf_tail : ∀ n : Nat, n < 21 → ∀ j : Nat, j < 21 → j ≤ n → stOf (some (j : Int)) n = j := by decide +kernel
theorem pick_drop {α : Type} {l : List α} : ∀ (m j : Nat), j + m = l.length → (List.range' j m).filterMap (l[·]?) = l.drop j
  | 0, j, h => (List.drop_eq_nil_of_le (Nat.le_of_eq h.symm)).symm
  | m + 1, j, h => by
    have hlt : j < l.length := by rw [← h]; exact Nat.lt_add_of_pos_right (Nat.succ_pos m)
    rw [List.range'_succ, List.filterMap_cons, List.getElem?_eq_getElem hlt]
    dsimp only
    rw [pick_drop m (j + 1) (by rw [← h, Nat.add_assoc, Nat.add_comm 1]), List.drop_eq_getElem_cons hlt]
theorem tail_is {α : Type} {l : List α} {j : Nat} (hl : l.length ≤ 20) (hj : j ≤ l.length) : sliceL l (some (j : Int)) none none = l.drop j := by
  unfold sliceL
  rw [picks_tail _ (Nat.lt_succ_of_le hl) _ (Nat.lt_succ_of_le (Nat.le_trans hj hl)) hj, pick_drop _ _ (Nat.add_sub_cancel' hj)]
section
variable {S : Sto} {x y z : M}
theorem get2a : (S ++ [x, y])[S.length]? = some x := by rw [List.getElem?_append_right (Nat.le_refl _), Nat.sub_self]; rfl
theorem get2b : (S ++ [x, y])[S.length + 1]? = some y := by rw [List.getElem?_append_right (Nat.le_add_right _ 1), Nat.add_sub_cancel_left]; rfl
theorem set2a : (S ++ [x, y]).set S.length z = S ++ [z, y] := by rw [List.set_append_right _ _ (Nat.le_refl _), Nat.sub_self]; rfl
theorem take_last2 : (S ++ [x, y]).take S.length = S := List.take_left' rfl
theorem set2b : (S ++ [x, y]).set (S.length + 1) z = S ++ [x, z] := by rw [List.set_append_right _ _ (Nat.le_add_right _ 1), Nat.add_sub_cancel_left]; rfl
end
def zbit (common : Int) (c : Nat) : Prop := Builtin.bitAnd (common.fdiv (2 ^ c)) 1 = 0
instance (common : Int) (c : Nat) : Decidable (zbit common c) := inferInstanceAs (Decidable (_ = _))
structure Low (common : Int) (c0 : Nat) : Prop where
  lt : c0 < 16
  no : ∀ c < c0, zbit common c
  yes : ¬ zbit common c0
abbrev ks29 : List (Str × EK) := ksOf (fScope (top 29))
def exTest : Expr := match (fBody (top 29)) with
  | _ :: .While t _ _ _ :: _ => t
  | _ => .Constant .none 0 default
def exBody : List Stmt := match (fBody (top 29)) with
  | _ :: .While _ b _ _ :: _ => b
  | _ => []
theorem put_put {x : Str} {v w : Val} {e : En} : put x v (put x w e) = put x v e := funext fun y => by
  unfold put
  cases y == x <;> rfl
section
variable {c : Cx} {k0 : Nat} {S : Sto} {common : Int} {e : En}
theorem ex_test {n : Nat} {w : Bool} (h2 : e (Str.ofString "common") = some (.d (.int common))) (hw : decide (zbit common n) = w) : TV ⟨c, k0 + 1, ks29⟩ exTest (put (Str.ofString "cell") (.d (.int (n : Int))) e) S (w, S) :=
  t_cmp (a := .d (.int (Builtin.bitAnd (common.fdiv (2 ^ n)) 1))) (b := .d (.int 0)) (e_fn (by kernel_rfl) (v_cons rfl (e_fn (by kernel_rfl) (v_cons rfl (e_name (by kernel_rfl) h2) (v_cons rfl (e_name (by kernel_rfl) rfl) v_nil)) (fn_irshift (Int.natCast_nonneg _))) (v_cons rfl (e_const rfl) v_nil)) fn_iand) (e_const rfl) rfl (congrArg some hw)
theorem ex_while {c0 : Nat} (L : Low common c0) (h2 : e (Str.ofString "common") = some (.d (.int common))) : ∀ (d n m : Nat), n + d = c0 → WG ⟨c, k0 + 1, ks29⟩ exTest exBody (m + d) (put (Str.ofString "cell") (.d (.int (n : Int))) e) S (put (Str.ofString "cell") (.d (.int (c0 : Int))) e, S)
  | 0, n, m, h => (show n = c0 from h) ▸ .stop (ex_test h2 (decide_eq_false ((show n = c0 from h) ▸ L.yes)))
  | d + 1, n, m, h => by
    refine .next (ex_test h2 (decide_eq_true (L.no n (by rw [← h]; exact Nat.lt_add_of_pos_right (Nat.succ_pos d))))) (x_asg (v := .d (.int ((n + 1 : Nat) : Int))) (by kernel_rfl) (fun _ => rfl) (e_fn (by kernel_rfl) (v_cons rfl (e_name (by kernel_rfl) rfl) (v_cons rfl (e_const rfl) v_nil)) fn_iadd) x_nil) ?_
    rw [put_put]
    exact ex_while L h2 d (n + 1) m (by rw [← h, Nat.add_assoc, Nat.add_comm 1])
def exD (a b : List (Str × Str)) (j : Nat) : D := .tuple [toldD 0 (a.take j ++ b.drop j), toldD 0 (b.take j ++ a.drop j)]
theorem cut_len {α : Type} {a b : List α} {j : Nat} (ha : a.length ≤ 20) (hb : b.length ≤ 20) : (a.take j).length + (b.drop j).length ≤ 40 := by
  rw [List.length_take, List.length_drop]
  exact Nat.add_le_add (Nat.le_trans (Nat.min_le_right _ _) ha) (Nat.le_trans (Nat.sub_le _ _) hb)
theorem Few.cut {a b : List (Str × Str)} (ha : Few a) (hb : Few b) (la : a.length ≤ 20) (lb : b.length ≤ 20) {j : Nat} : Few (a.take j ++ b.drop j) :=
  ⟨Nat.le_trans (eqLe List.length_append (cut_len la lb)) (by decide), fun p hp => (List.mem_append.mp hp).elim (fun h => ha.2 p (List.mem_of_mem_take h)) fun h => hb.2 p (List.mem_of_mem_drop h)⟩
theorem psD_take {ps : List (Str × Str)} {j : Nat} : (psD ps).take j = psD (ps.take j) := List.map_take.symm
theorem psD_drop {ps : List (Str × Str)} {j : Nat} : (psD ps).drop j = psD (ps.drop j) := List.map_drop.symm
theorem psD_app {a b : List (Str × Str)} : psD a ++ psD b = psD (a ++ b) := List.map_append.symm
theorem me_cut {i j : Nat} {ps : List (Str × Str)} {k : Int} (eS : S[i]? = some (.acc (psD ps) k)) (hl : ps.length ≤ 20) (hj : j ≤ ps.length) : ME c (k0 + 1) (Str.ofString "pop_from") (.ref i) [.d (.int (j : Int))] S (.d (.list (psD (ps.drop j))), S.set i (.acc (psD (ps.take j)) k)) := by
  have hl' := eqLe (psD_len ps) hl
  have hj' : j ≤ (psD ps).length := (psD_len ps).symm ▸ hj
  have := me_pop_from (c := c) (k0 := k0) (j := (j : Int)) eS (le_line (Nat.le_trans hl' (by decide)))
  rwa [tail_is hl' hj', stOf_tail _ (Nat.lt_succ_of_le hl') _ (Nat.lt_succ_of_le (Nat.le_trans hj' hl')) hj', psD_take, psD_drop] at this
theorem make2 {x : M} {k : Int} : FN c k0 (Str.ofString "_Accumulator") [.d (.int k)] (S ++ [x]) (.ref (S.length + 1), S ++ [x, .acc [] k]) := by
  have := fn_make (c := c) (k0 := k0) (S := S ++ [x]) (k := k) (.inr rfl)
  rwa [List.length_append, List.append_assoc] at this
theorem fn_exchange {c0 j : Nat} {a b : List (Str × Str)} (L : Low common c0) (hj : c0 / 4 + c0 % 4 = j) (ha : Few a) (hb : Few b) (la : a.length ≤ 20) (lb : b.length ≤ 20) (ja : j ≤ a.length) (jb : j ≤ b.length) : FN c (k0 + 5) (Str.ofString "_law_exchange") [.d (.list (psD a)), .d (.list (psD b)), .d (.int common)] S (.d (exD a b j), S) := by
  have line : ∀ {n : Nat}, n ≤ 40 → n ≤ sizeLine := fun h => le_line (Nat.le_trans h (by decide))
  have la' := eqLe (psD_len a) la
  have lb' := eqLe (psD_len b) lb
  have z : ∀ {a b : List (Str × Str)}, a.length ≤ 20 → b.length ≤ 20 → (psD (a.take j)).length + (psD (b.drop j)).length ≤ sizeLine := fun la lb => by rw [psD_len, psD_len]; exact line (cut_len la lb)
  have dj : ∀ {e : En} {S' : Sto} {p1 p2 p3 p4 p5 p6 p7 : Pos} {q1 q2 : Nat}, e (Str.ofString "cell") = some (.d (.int (c0 : Int))) → EV ⟨c, k0 + 4, ks29⟩ (.BinOp (.BinOp (.Name (Str.ofString "cell") p1) .FloorDiv (.Constant (.int 4) q1 p2) p3) .Add (.BinOp (.Name (Str.ofString "cell") p4) .Mod (.Constant (.int (4 : Nat)) q2 p5) p6) p7) e S' (.d (.int (j : Int)), S') := fun h => hj ▸ e_bin (md := false) (e_div4 (e_name (by kernel_rfl) h)) (e_modN (by decide) (e_name (by kernel_rfl) h)) rfl
  refine fn_of (k := k0 + 4) (u_exchange c) (g_exchange c) (k_exchange c) rfl (zf := (.ret (.d (exD a b j)), S ++ [.acc (psD (a.take j ++ b.drop j)) 0, .acc (psD (b.take j ++ a.drop j)) 0])) (EX.c (x_asg (by kernel_rfl) (fun _ => rfl) (e_const rfl) (x_while (ex_while (k0 := k0 + 3) L rfl c0 0 0 (Nat.zero_add _)) ?_))) ?_
  · refine x_tup (vs := [.ref S.length, .ref (S.length + 1)]) (S1 := S ++ [.acc [] 2, .acc [] 1]) (.cons (.cons .nil)) (by kernel_rfl) (v_cons rfl (e_fn (by kernel_rfl) (v_cons rfl (e_const rfl) v_nil) (fn_make (.inr rfl))) (v_cons rfl (e_fn (by kernel_rfl) (v_cons rfl (e_const rfl) v_nil) make2) v_nil)) (by kernel_rfl) rfl ?_
    refine x_expr (S1 := S ++ [.acc [.tuple [.str spS, .str emptyS]] 2, .acc [] 1]) (fun _ => rfl) (e_me rfl (Nat.le_of_ble_eq_true rfl) rfl (e_name (by kernel_rfl) rfl) (v_cons rfl (e_const rfl) (v_cons rfl (e_const rfl) v_nil)) (fun _ h => h) (set2a (S := S) ▸ me_push get2a (Nat.le_of_ble_eq_true rfl))) ?_
    refine x_expr (S1 := S ++ [.acc [.tuple [.str spS, .str emptyS]] 2, .acc [.tuple [.str emptyS, .str (Str.ofString "x")]] 1]) (fun _ => rfl) (e_me rfl (Nat.le_of_ble_eq_true rfl) rfl (e_name (by kernel_rfl) rfl) (v_cons rfl (e_const rfl) (v_cons rfl (e_const rfl) v_nil)) (fun _ h => h) (set2b (S := S) ▸ me_push get2b (Nat.le_of_ble_eq_true rfl))) ?_
    refine x_skip (S1 := S ++ [.acc (psD a) 0, .acc (psD b) 0]) (t_bool (a_cons (w := false) (S1 := S ++ [.acc (psD a) 0, .acc [.tuple [.str emptyS, .str (Str.ofString "x")]] 1]) (t_cmp (e_me rfl (Nat.le_of_ble_eq_true rfl) rfl (e_name (by kernel_rfl) rfl) (v_cons rfl (e_name (by kernel_rfl) rfl) v_nil) (fun _ h => h) (set2a (S := S) ▸ me_reset get2a (line (Nat.add_le_add_left la' 1 |> fun h => Nat.le_trans h (by decide))))) (e_const rfl) rfl rfl) (a_cons (w := false) (t_cmp (e_me rfl (Nat.le_of_ble_eq_true rfl) rfl (e_name (by kernel_rfl) rfl) (v_cons rfl (e_name (by kernel_rfl) rfl) v_nil) (fun _ h => h) (set2b (S := S) ▸ me_reset get2b (line (Nat.add_le_add_left lb' 1 |> fun h => Nat.le_trans h (by decide))))) (e_const rfl) rfl rfl) a_nil))) ?_
    refine x_tup (vs := [.d (.list (psD (a.drop j))), .d (.list (psD (b.drop j)))]) (S1 := S ++ [.acc (psD (a.take j)) 0, .acc (psD (b.take j)) 0]) (.cons (.cons .nil)) (by kernel_rfl) (v_cons rfl (e_me rfl (Nat.le_of_ble_eq_true rfl) rfl (e_name (by kernel_rfl) rfl) (v_cons rfl (dj rfl) v_nil) (fun _ h => h) (set2a (S := S) ▸ me_cut get2a la ja)) (v_cons rfl (e_me rfl (Nat.le_of_ble_eq_true rfl) rfl (e_name (by kernel_rfl) rfl) (v_cons rfl (dj rfl) v_nil) (fun _ h => h) (set2b (S := S) ▸ me_cut get2b lb jb)) v_nil)) rfl rfl ?_
    refine x_skip (S1 := S ++ [.acc (psD (a.take j ++ b.drop j)) 0, .acc (psD (b.take j ++ a.drop j)) 0]) (t_bool (a_cons (w := false) (S1 := S ++ [.acc (psD (a.take j ++ b.drop j)) 0, .acc (psD (b.take j)) 0]) (t_cmp (e_fn (by kernel_rfl) (v_cons rfl (e_name (by kernel_rfl) rfl) (v_cons rfl (e_name (by kernel_rfl) rfl) v_nil)) (set2a (S := S) ▸ psD_app ▸ fn_iconcat get2a (z la lb))) (e_name (by kernel_rfl) rfl) rfl isnot_self) (a_cons (w := false) (t_cmp (e_fn (by kernel_rfl) (v_cons rfl (e_name (by kernel_rfl) rfl) (v_cons rfl (e_name (by kernel_rfl) rfl) v_nil)) (set2b (S := S) ▸ psD_app ▸ fn_iconcat get2b (z lb la))) (e_name (by kernel_rfl) rfl) rfl isnot_self) a_nil))) ?_
    exact x_return (e_tuple (v_cons rfl (e_fn (by kernel_rfl) (v_cons rfl (e_name (by kernel_rfl) rfl) v_nil) (fn_told get2a (ha.cut hb la lb) ⟨by decide, by decide⟩)) (v_cons rfl (e_fn (by kernel_rfl) (v_cons rfl (e_name (by kernel_rfl) rfl) v_nil) (fn_told get2b (hb.cut ha lb la) ⟨by decide, by decide⟩)) v_nil)) rfl (Nat.le_of_ble_eq_true rfl))
  · have := LV.data (S := S) (S' := S ++ [.acc (psD (a.take j ++ b.drop j)) 0, .acc (psD (b.take j ++ a.drop j)) 0]) (x := exD a b j)
    rwa [take_last2] at this
end
abbrev ks31 : List (Str × EK) := ksOf (fScope (top 31))
def lb (i : Nat) : List Stmt := (fBody (top 31)).drop i
def sliceI (xs : List Int) (lo st : Int) : List Int := sliceL xs (some lo) none (some st)
def dr (xs : List Int) (c : Nat) : Int := (((c + 3 : Nat) : Int) ^ 3) + sumI (sliceI xs (((c + 15) % 16 : Nat) : Int) 16)
def four (c : Nat) : Bool := c == 1 || c == 4 || c == 11 || c == 14
def nu (xs : List Int) (c : Nat) : Int := bif four c && decide (md (dr xs c) 6 = 0) then dr xs c + 1 else dr xs c
def snX (xs : List Int) (c : Nat) : Nat := signN (nu xs c)
def kdX (xs : List Int) (c : Nat) : Nat := kindN (nu xs c)
def plusX (xs : List Int) : Int := 3 + sumI (sliceI xs 0 2)
def minusX (xs : List Int) : Int := -2 - sumI (sliceI xs 1 2)
def leadN (xs : List Int) : Nat := md (sumI xs) 4
def leadX (xs : List Int) : Int := (leadN xs : Int)
def E0 (xs : List Int) : En := put (Str.ofString "script") (.d (intsD xs)) emp
def E1 (xs : List Int) : En := put (Str.ofString "drawn") (.d (.list (intsL (dr xs)))) (E0 xs)
def E2 (xs : List Int) : En := put (Str.ofString "numbers") (.d (.list (intsL (nu xs)))) (E1 xs)
def E3 (xs : List Int) : En := putN [(Str.ofString "signs"), (Str.ofString "kinds")] [.d (.list (signsD (snX xs))), .d (.list (intsL fun c => (kdX xs c : Int)))] (E2 xs)
def E4 (xs : List Int) : En := putN [(Str.ofString "plus"), (Str.ofString "minus"), (Str.ofString "lead")] [.d (.int (plusX xs)), .d (.int (minusX xs)), .d (.int (leadX xs))] (E3 xs)
def E5 (xs : List Int) : En := putN [(Str.ofString "page"), (Str.ofString "path")] [.ref 0, .ref 1] (E4 xs)
section
variable {f : Fr} {e : En} {S S1 S2 S3 S4 : Sto} {p q : Pos} {x y t0 : Expr} {a b : Int} {w w2 : Bool}
theorem t_and (h1 : TV f x e S (w, S)) (h2 : w = true → TV f y e S (w2, S)) : TV f (.BoolOp .And [x, y] p) e S (w && w2, S) := by
  cases w with
  | false => exact t_bool (a_cons h1 rfl)
  | true =>
    refine t_bool (a_cons h1 (a_cons (h2 rfl) ?_))
    cases w2
    · exact rfl
    · exact a_nil
theorem e_iteI (h1 : TV f t0 e S (w, S)) (h2 : w = true → EV f x e S (.d (.int a), S)) (h3 : w = false → EV f y e S (.d (.int b), S)) : EV f (.IfExp t0 x y p) e S (.d (.int (bif w then a else b)), S) := by
  cases w with
  | false => exact e_if h1 (h3 rfl)
  | true => exact e_if h1 (h2 rfl)
theorem slice_map {xs : List Int} {lo st : Int} : sliceL (xs.map PyData.int) (some lo) none (some st) = (sliceI xs lo st).map .int := by
  unfold sliceI sliceL
  rw [List.length_map, List.map_filterMap]
  exact congrArg (fun g => List.filterMap g _) (funext fun i => List.getElem?_map)
theorem e_sliceX {lo st : Expr} {xs : List Int} {dl ds : Int} (hx : xs.length ≤ 63) (hs : ds ≠ 0) (h1 : EV f x e S (.d (intsD xs), S1)) (h2 : EV f lo e S1 (.d (.int dl), S2)) (h3 : EV f st e S2 (.d (.int ds), S3)) : EV f (.Subscript x (.Slice (some lo) none (some st) q) p) e S (.d (.list ((sliceI xs dl ds).map .int)), S3) :=
  e_slice h1 (o_some h2) o_none (o_some h3) (by
    show (if some ds = some 0 then none else if (xs.map PyData.int).length ≤ sizeLine then some (Val.d (.list (sliceL (xs.map PyData.int) (some dl) none (some ds)))) else none) = _
    rw [if_neg fun q => hs (Option.some.inj q), if_pos (eqLe (List.length_map _) (le_line (Nat.le_trans hx (by decide)))), slice_map])
theorem big27_21 : (21 : Int) ≤ big27 := by decide +kernel
theorem e_pow3 {n kk : Nat} (h : n < 128) (h1 : EV f x e S (.d (.int (n : Int)), S1)) : EV f (.BinOp x .Pow (.Constant (.int 3) kk q) p) e S (.d (.int ((n : Int) ^ 3)), S1) :=
  e_bin (md := false) h1 (e_const rfl) (by
    show ((if 0 ≤ (3 : Int) ∧ (nb (n : Int) : Int) * 3 ≤ big27 then some ((n : Int) ^ (3 : Int).toNat) else none).map PyData.int).map (fun z => (Val.d z, S1)) = _
    have hb : nb (n : Int) ≤ 7 := bits_of h
    rw [if_pos ⟨by decide, Int.le_trans (Int.mul_le_mul_of_nonneg_right (Int.ofNat_le.mpr hb) (by decide)) big27_21⟩]
    rfl)
end
theorem four_in : ∀ c : Nat, c < 16 → inD (.int (c : Int)) (.tuple [.int 1, .int 4, .int 11, .int 14]) = some (four c) := by decide +kernel
section
variable {c : Cx} {k0 : Nat} {S : Sto} {xs : List Int} {z : Fl × Sto}
theorem law0 (hx : xs.length ≤ 63) (nx : EX ⟨c, k0, ks31⟩ (lb 1) (E1 xs) S z) : EX ⟨c, k0, ks31⟩ (lb 0) (E0 xs) S z :=
  x_asgC (ss := lb 1) (by kernel_rfl) (c_map (md := false) (xs := [(Str.ofString "cell")]) (L := List.range 16) (d := fun i => .int (i : Int)) (h := fun i => .int (dr xs i)) (v := fun i => [.d (.int (i : Int))]) (by kernel_rfl) (by kernel_rfl) (src_range (k := 16) (by kernel_rfl) rfl (e_const rfl) ⟨by decide, by decide⟩) (fun p _ => .name (by kernel_rfl)) (Nat.le_of_ble_eq_true rfl) fun i hi =>
    e_bin (md := false) (e_pow3 (n := i + 3) (Nat.lt_of_lt_of_le (Nat.add_lt_add_right (List.mem_range.mp hi) 3) (by decide)) (e_bin (md := false) (e_name (by kernel_rfl) rfl) (e_const rfl) rfl)) (e_fn (by kernel_rfl) (v_cons rfl (e_sliceX hx (by decide) (e_name (by kernel_rfl) rfl) (e_modN (k := 16) (a := i + 15) (by decide) (e_bin (md := false) (e_name (by kernel_rfl) rfl) (e_const rfl) rfl)) (e_const rfl)) v_nil) fn_sum) rfl) nx
theorem law1 (nx : EX ⟨c, k0, ks31⟩ (lb 2) (E2 xs) S z) : EX ⟨c, k0, ks31⟩ (lb 1) (E1 xs) S z :=
  x_asgC (ss := lb 2) (by kernel_rfl) (c_map (md := false) (xs := [(Str.ofString "cell"), (Str.ofString "number")]) (L := List.range 16) (d := fun i => .tuple [.int (i : Int), .int (dr xs i)]) (h := fun i => .int (nu xs i)) (v := fun i => [.d (.int (i : Int)), .d (.int (dr xs i))]) (by kernel_rfl) (by kernel_rfl) (src_enum (l := intsL (dr xs)) (by kernel_rfl) rfl (e_name (by kernel_rfl) rfl) (.inl rfl)) (fun p _ => .tup (.cons (.cons .nil)) (by kernel_rfl) rfl) (Nat.le_of_ble_eq_true rfl) fun i hi =>
    e_iteI (t_and (t_cmp (e_name (by kernel_rfl) rfl) (e_tuple (v_cons rfl (e_const rfl) (v_cons rfl (e_const rfl) (v_cons rfl (e_const rfl) (v_cons rfl (e_const rfl) v_nil)))) rfl (Nat.le_of_ble_eq_true rfl)) rfl (four_in i (List.mem_range.mp hi))) fun _ => t_cmp (e_mod (k := 6) (by decide) (e_name (by kernel_rfl) rfl)) (e_const rfl) rfl (eq_at (b := 0) rfl)) (fun _ => e_bin (md := false) (e_name (by kernel_rfl) rfl) (e_const rfl) rfl) fun _ => (e_name (by kernel_rfl) rfl)) nx
theorem law2 (nx : EX ⟨c, k0 + 1, ks31⟩ (lb 3) (E3 xs) S z) : EX ⟨c, k0 + 1, ks31⟩ (lb 2) (E2 xs) S z :=
  x_tup (ss := lb 3) (vs := [.d (.list (signsD (snX xs))), .d (.list (intsL fun c => (kdX xs c : Int)))]) (.cons (.cons .nil)) (by kernel_rfl) (v_cons rfl (e_comp (c_map (md := false) (xs := [(Str.ofString "number")]) (L := List.range 16) (d := fun i => .int (nu xs i)) (h := fun i => .str (sg (snX xs i))) (v := fun i => [.d (.int (nu xs i))]) (by kernel_rfl) (by kernel_rfl) (src_plain (fun _ _ => rfl) (e_name (by kernel_rfl) rfl) (.lst _)) (fun p _ => .name (by kernel_rfl)) (Nat.le_of_ble_eq_true rfl) fun i hi => e_fn (by kernel_rfl) (v_cons rfl (e_name (by kernel_rfl) rfl) v_nil) fn_sign)) (v_cons rfl (e_comp (c_map (md := false) (xs := [(Str.ofString "number")]) (L := List.range 16) (d := fun i => .int (nu xs i)) (h := fun i => .int (kdX xs i : Int)) (v := fun i => [.d (.int (nu xs i))]) (by kernel_rfl) (by kernel_rfl) (src_plain (fun _ _ => rfl) (e_name (by kernel_rfl) rfl) (.lst _)) (fun p _ => .name (by kernel_rfl)) (Nat.le_of_ble_eq_true rfl) fun i hi => e_mod (k := 6) (by decide) (e_name (by kernel_rfl) rfl))) v_nil)) rfl rfl nx
theorem law3 (hx : xs.length ≤ 63) (nx : EX ⟨c, k0, ks31⟩ (lb 4) (E4 xs) S z) : EX ⟨c, k0, ks31⟩ (lb 3) (E3 xs) S z :=
  x_tup (ss := lb 4) (vs := [.d (.int (plusX xs)), .d (.int (minusX xs)), .d (.int (leadX xs))]) (.cons (.cons (.cons .nil))) (by kernel_rfl) (v_cons rfl (e_bin (md := false) (e_const rfl) (e_fn (by kernel_rfl) (v_cons rfl (e_sliceX hx (by decide) (e_name (by kernel_rfl) rfl) (e_const rfl) (e_const rfl)) v_nil) fn_sum) rfl) (v_cons rfl (e_bin (md := false) (e_un (e_const rfl) rfl) (e_fn (by kernel_rfl) (v_cons rfl (e_sliceX hx (by decide) (e_name (by kernel_rfl) rfl) (e_const rfl) (e_const rfl)) v_nil) fn_sum) rfl) (v_cons rfl (e_mod (k := 4) (by decide) (e_fn (by kernel_rfl) (v_cons rfl (e_name (by kernel_rfl) rfl) v_nil) fn_sum)) v_nil))) rfl rfl nx
theorem law4 (nx : EX ⟨c, k0, ks31⟩ (lb 5) (E5 xs) [.acc [] 1, .acc [] (leadX xs)] z) : EX ⟨c, k0, ks31⟩ (lb 4) (E4 xs) [] z := by
  refine x_tup (ss := lb 5) (vs := [.ref 0, .ref 1]) (S1 := [.acc [] 1, .acc [] (leadX xs)]) (.cons (.cons .nil)) (by kernel_rfl) (v_cons rfl (e_fn (by kernel_rfl) (v_cons rfl (e_const rfl) v_nil) (fn_make (.inr rfl))) (v_cons rfl (e_if (w := decide (0 < leadN xs)) (t_cmp (e_name (by kernel_rfl) rfl) (e_const rfl) rfl (gt_at (b := 0) rfl)) ?_) v_nil)) rfl rfl nx
  by_cases h : 0 < leadN xs
  · rw [decide_eq_true h]
    exact e_fn (by kernel_rfl) (v_cons rfl (e_name (by kernel_rfl) rfl) v_nil) (fn_make (.inr rfl))
  · rw [decide_eq_false h]
    exact e_fn (by kernel_rfl) v_nil (fn_make (.inl ⟨rfl, congrArg Int.ofNat (Nat.eq_zero_of_not_pos h)⟩))
end
theorem a_one {f : Fr} {x : Expr} {e : En} {S S1 : Sto} {w : Bool} (h : TV f x e S (w, S1)) : AT f .And [x] e S (w, S1) := by
  cases w with
  | false => exact a_cons h rfl
  | true => exact a_cons h a_nil
theorem isnot_bool {a : Bool} : cmpV .IsNot (.d (.bool a)) (.d (.bool a)) = some false := by cases a <;> rfl
theorem snX_ok (xs : List Int) : ∀ c, c < 16 → SignIs (snX xs c) (kdX xs c) := fun _ _ => signIs (sign_ok _)
theorem leadX_ok (xs : List Int) : 0 ≤ leadX xs ∧ leadX xs ≤ 1000 := ⟨Int.natCast_nonneg _, Int.ofNat_le.mpr (Nat.le_trans (Nat.le_of_lt (md_lt (by decide))) (by decide))⟩
def X5 : List Str := [(Str.ofString "sign"), (Str.ofString "kind")]
def e8 (xs : List Int) (n : Nat) : En := putN X5 [.d (.str (sg (snX xs n))), .d (.int (kdX xs n : Int))] (E5 xs)
def pgPs (sn : Nat → Nat) (c : Nat) : List (Str × Str) := (List.range c).map fun c => (emptyS, sg (sn c))
def fTgt (i : Nat) : Expr := match lb i with
  | .For t _ _ _ _ :: _ => t
  | _ => .Constant .none 0 default
def fBod (i : Nat) : List Stmt := match lb i with
  | .For _ _ b _ _ :: _ => b
  | _ => []
def sS (xs : List Int) (n : Nat) : Sto := [.acc (psD (pgPs (snX xs) n)) 1, .acc [] (leadX xs)]
def Sl (xs : List Int) : Sto := [.acc (psD (pagePs (snX xs))) 1, .acc [] (leadX xs)]
def rowS (xs : List Int) (n : Nat) : D := .tuple [.str (sg (snX xs n)), .int (kdX xs n : Int)]
theorem pgPs_len (sn : Nat → Nat) (n : Nat) : (psD (pgPs sn n)).length = n := (psD_len _).trans ((List.length_map _).trans List.length_range)
theorem pgPs_succ (sn : Nat → Nat) (n : Nat) : psD (pgPs sn n) ++ [pD (emptyS, sg (sn n))] = psD (pgPs sn (n + 1)) := by
  unfold pgPs
  rw [List.range_succ, List.map_append, ← psD_snoc]; rfl
section
variable {c : Cx} {k0 : Nat} {S : Sto} {xs : List Int} {z : Fl × Sto}
theorem sgn_cell {n : Nat} (hn : n < 16) : EX ⟨c, k0 + 1, ks31⟩ (fBod 5) (e8 xs n) (sS xs n) (.next (e8 xs n), sS xs (n + 1)) := by
  have X := snX_ok xs n hn
  have t : ∀ {g : Str} {w : Bool} {q1 q2 q3 q4 : Pos} {y : Expr}, isG ks31 g = true → FN c (k0 + 1) g [.d (.str (sg (snX xs n)))] (sS xs (n + 1)) (.d (.bool w), sS xs (n + 1)) → EV ⟨c, k0 + 1, ks31⟩ y (e8 xs n) (sS xs (n + 1)) (.d (.bool w), sS xs (n + 1)) → behindInMarks .IsNot y = false → TV ⟨c, k0 + 1, ks31⟩ (.Compare (.Call (.Name g q1) [.Name (Str.ofString "sign") q2] [] q3) [.IsNot] [y] q4) (e8 xs n) (sS xs (n + 1)) (false, sS xs (n + 1)) := fun g1 g2 g3 g4 => t_cmp (e_fn g1 (v_cons rfl (e_name (by kernel_rfl) rfl) v_nil) g2) g3 g4 isnot_bool
  have kd : ∀ {m : Nat} {q1 q2 q3 : Pos} {kk : Nat}, EV ⟨c, k0 + 1, ks31⟩ (.Compare (.Name (Str.ofString "kind") q1) [.Eq] [.Constant (.int (m : Int)) kk q2] q3) (e8 xs n) (sS xs (n + 1)) (.d (.bool (decide (kdX xs n = m))), sS xs (n + 1)) := e_cmp (e_name (by kernel_rfl) rfl) (e_const rfl) rfl (eq_at rfl)
  have push : ME c (k0 + 1) (Str.ofString "push") (.ref 0) [.d (.str emptyS), .d (.str (sg (snX xs n)))] (sS xs n) (.d .none, sS xs (n + 1)) := by
    have := me_push (c := c) (k0 := k0) (i := 0) (S := sS xs n) (x := .str emptyS) (y := .str (sg (snX xs n))) rfl (eqLe (congrArg Nat.succ (pgPs_len _ n)) (le_line (Nat.le_trans hn (by decide))))
    rw [show psD (pgPs (snX xs) n) ++ [PyData.tuple [.str emptyS, .str (sg (snX xs n))]] = _ from pgPs_succ _ n] at this
    exact this
  refine x_skip (S1 := sS xs (n + 1)) (t_bool (a_cons (w := false) (t_cmp (e_me rfl (Nat.le_of_ble_eq_true rfl) rfl (e_name (by kernel_rfl) rfl) (v_cons rfl (e_const rfl) (v_cons rfl (e_name (by kernel_rfl) rfl) v_nil)) (fun _ h => h) push) (e_const rfl) rfl rfl) (a_cons (w := false) (t (by kernel_rfl) (decide_eq_false X.ne ▸ fn_c11 X.lt) (e_const rfl) rfl) (a_cons (w := false) (t (by kernel_rfl) (X.c4 ▸ fn_c4) (kd (m := 0)) rfl) a_nil)))) (x_skip (t_bool (a_cons (w := false) (t (by kernel_rfl) (X.c8 ▸ fn_c8) (kd (m := 1)) rfl) (a_cons (w := false) (t (by kernel_rfl) (X.c9 ▸ fn_c9) (kd (m := 2)) rfl) a_nil))) x_nil)
theorem sgn_loop : ∀ (m n : Nat) (e : En), n + (m + 1) = 16 → EqX X5 (E5 xs) e → FG ⟨c, k0 + 1, ks31⟩ (fTgt 5) (fBod 5) ((List.range' n (m + 1)).map (rowS xs)) e (sS xs n) (.next (e8 xs 15), sS xs 16)
  | m, n, e, hn, h => by
    have a : Asg ks31 (fTgt 5) (rowS xs n) e (e8 xs n) := (show putN X5 [.d (.str (sg (snX xs n))), .d (.int (kdX xs n : Int))] e = e8 xs n from putN_eqX h rfl) ▸ Asg.tup (.cons (.cons .nil)) (by kernel_rfl) rfl
    have hn' : n < 16 := by rw [← hn]; exact Nat.lt_add_of_pos_right (Nat.succ_pos m)
    rw [List.range'_succ]
    cases m with
    | zero =>
      cases Nat.succ.inj hn
      exact .next a (sgn_cell hn') .nil
    | succ m => exact .next a (sgn_cell hn') (sgn_loop m (n + 1) _ (by rw [← hn, Nat.add_assoc, Nat.add_comm 1]) putN_out)
theorem pgPs_page (sn : Nat → Nat) : psD (pgPs sn 16) ++ [pD (emptyS, emptyS)] ++ [pD (emptyS, emptyS)] = psD (pagePs sn) := by
  unfold pagePs
  rw [show psD (pgPs sn 16) ++ [pD (emptyS, emptyS)] = _ from (psD_snoc _ _).symm, ← psD_snoc, List.append_assoc]
  rfl
theorem zrow : zipD (signsD (snX xs)) (intsL fun c => (kdX xs c : Int)) = (List.range' 0 16).map (rowS xs) := by kernel_rfl
theorem page_src (sn : Nat → Nat) : enumD 0 (signs (ofL (txtL (pagePs sn)))) = (List.range 16).map fun i => .tuple [.int (i : Int), .str (sg (sn i))] := by kernel_rfl
theorem law5 (nx : EX ⟨c, k0 + 1, ks31⟩ (lb 8) (e8 xs 15) (Sl xs) z) : EX ⟨c, k0 + 1, ks31⟩ (lb 5) (E5 xs) [.acc [] 1, .acc [] (leadX xs)] z := by
  have p : ∀ {l : List D}, l.length ≤ 17 → ME c (k0 + 1) (Str.ofString "push") (.ref 0) [.d (.str emptyS), .d (.str emptyS)] [.acc l 1, .acc [] (leadX xs)] (.d .none, [.acc (l ++ [pD (emptyS, emptyS)]) 1, .acc [] (leadX xs)]) := fun h => me_push (i := 0) rfl (Nat.lt_of_le_of_lt h (Nat.le_of_ble_eq_true rfl))
  have p2 := p (l := psD (pgPs (snX xs) 16) ++ [pD (emptyS, emptyS)]) (by rw [List.length_append, pgPs_len]; exact Nat.le_refl _)
  rw [pgPs_page] at p2
  exact x_for (ss := lb 6) (l := (List.range' 0 16).map (rowS xs)) (zrow ▸ src_zip (l := signsD (snX xs)) (m := intsL fun c => (kdX xs c : Int)) (by kernel_rfl) rfl rfl (e_name (by kernel_rfl) rfl) (e_name (by kernel_rfl) rfl)) (sgn_loop 15 0 _ rfl fun _ _ => rfl) (x_expr (ss := lb 7) (fun _ => rfl) (e_me rfl (Nat.le_of_ble_eq_true rfl) rfl (e_name (by kernel_rfl) rfl) (v_cons rfl (e_const rfl) (v_cons rfl (e_const rfl) v_nil)) (fun _ h => h) (p (eqLe (pgPs_len _ _) (by decide)))) (x_expr (ss := lb 8) (S1 := Sl xs) (fun _ => rfl) (e_me rfl (Nat.le_of_ble_eq_true rfl) rfl (e_name (by kernel_rfl) rfl) (v_cons rfl (e_const rfl) (v_cons rfl (e_const rfl) v_nil)) (fun _ h => h) p2) nx))
def clX (xs : List Int) : List Nat := (List.range 16).filter fun c => decide (kdX xs c = 0)
def E9 (xs : List Int) : En := put (Str.ofString "shut") (.d (rowD (clX xs))) (e8 xs 15)
def endsN : List (Nat × Nat) := [(1, 11), (4, 14), (1, 14), (4, 11)]
def endsD : D := .list (endsN.map fun p => .tuple [.int (p.1 : Int), .int (p.2 : Int)])
def E10 (xs : List Int) : En := putN [(Str.ofString "ends"), (Str.ofString "closed")] [.d endsD, .d (rowD (clX xs))] (E9 xs)
theorem pagePs_few (sn : Nat → Nat) : Few (pagePs sn) := by
  refine ⟨show 18 ≤ 1000 by decide, fun p hp => (List.mem_append.mp hp).elim (fun h => ?_) fun h => ?_⟩
  · obtain ⟨c, _, rfl⟩ := List.mem_map.mp h
    exact ⟨(Nat.le_of_ble_eq_true rfl), (Nat.le_of_ble_eq_true rfl)⟩
  · rcases List.mem_cons.mp h with rfl | h
    · exact ⟨(Nat.le_of_ble_eq_true rfl), (Nat.le_of_ble_eq_true rfl)⟩
    · cases List.mem_singleton.mp h
      exact ⟨(Nat.le_of_ble_eq_true rfl), (Nat.le_of_ble_eq_true rfl)⟩
theorem law9 (nx : EX ⟨c, k0, ks31⟩ (lb 10) (E10 xs) (Sl xs) z) : EX ⟨c, k0, ks31⟩ (lb 9) (E9 xs) (Sl xs) z := by
  refine @x_tup _ _ _ (Sl xs) _ _ _ _ (lb 10) _ _ _ _ _ [.d endsD, .d (rowD (clX xs))] (.cons (.cons .nil)) (by kernel_rfl) (v_cons (S1 := Sl xs) rfl ?_ (v_cons (S1 := Sl xs) rfl ?_ v_nil)) (by kernel_rfl) rfl nx
  · exact e_list (v_cons rfl (e_tuple (v_cons rfl (e_const rfl) (v_cons rfl (e_const rfl) v_nil)) rfl (Nat.le_of_ble_eq_true rfl)) (v_cons rfl (e_tuple (v_cons rfl (e_const rfl) (v_cons rfl (e_const rfl) v_nil)) rfl (Nat.le_of_ble_eq_true rfl)) (v_cons rfl (e_tuple (v_cons rfl (e_const rfl) (v_cons rfl (e_const rfl) v_nil)) rfl (Nat.le_of_ble_eq_true rfl)) (v_cons rfl (e_tuple (v_cons rfl (e_const rfl) (v_cons rfl (e_const rfl) v_nil)) rfl (Nat.le_of_ble_eq_true rfl)) v_nil)))) rfl (Nat.le_of_ble_eq_true rfl)
  · exact e_comp (c_filter (md := false) (xs := [(Str.ofString "cell")]) (L := List.range 16) (d := fun i => .int (i : Int)) (h := fun i => .int (i : Int)) (w := fun i => decide (kdX xs i = 0)) (v := fun i => [.d (.int (i : Int))]) (by kernel_rfl) (by kernel_rfl) (src_range (k := 16) (by kernel_rfl) rfl (e_const rfl) ⟨by decide, by decide⟩) (fun p _ => .name (by kernel_rfl)) (Nat.le_of_ble_eq_true rfl) (fun i hi => a_one (t_cmp (e_sub (e_name (by kernel_rfl) rfl) (e_name (by kernel_rfl) rfl) (getV_list (Nat.lt_of_lt_of_le (List.mem_range.mp hi) (by decide)) (map16 (g := fun i => .int (kdX xs i : Int)) (List.mem_range.mp hi)))) (e_const rfl) rfl (eq_at (b := 0) rfl))) fun i hi _ => (e_name (by kernel_rfl) rfl))
theorem law8 (nx : EX ⟨c, k0 + 4, ks31⟩ (lb 9) (E9 xs) (Sl xs) z) : EX ⟨c, k0 + 4, ks31⟩ (lb 8) (e8 xs 15) (Sl xs) z := by
  refine x_asgC (ss := lb 9) (v := .d (.list (((List.range 16).filter fun i => decide (kdX xs i = 0)).map fun (i : Nat) => PyData.int (i : Int)))) (S1 := Sl xs) (by kernel_rfl) (c_filter (md := false) (xs := [(Str.ofString "cell"), (Str.ofString "sign")]) (L := List.range 16) (d := fun i => .tuple [.int (i : Int), .str (sg (snX xs i))]) (h := fun i => .int (i : Int)) (w := fun i => decide (kdX xs i = 0)) (v := fun i => [.d (.int (i : Int)), .d (.str (sg (snX xs i)))]) (by kernel_rfl) (by kernel_rfl) (page_src _ ▸ src_enum (l := signs (ofL (txtL (pagePs (snX xs))))) (by kernel_rfl) rfl (e_fn (by kernel_rfl) (v_cons rfl (e_name (by kernel_rfl) rfl) v_nil) (fn_str_acc (k0 := k0 + 1) (i := 0) rfl (pagePs_few _))) (.inr ⟨_, rfl, rfl⟩)) (fun p _ => .tup (.cons (.cons .nil)) (by kernel_rfl) rfl) (Nat.le_of_ble_eq_true rfl) (fun i hi => a_one (t_call (e_fn (by kernel_rfl) (v_cons rfl (e_name (by kernel_rfl) rfl) v_nil) ((snX_ok xs i (List.mem_range.mp hi)).c4 ▸ fn_c4)) rfl)) fun i hi _ => (e_name (by kernel_rfl) rfl)) ?_
  assumption
def fam (xs : List Int) (s g : Nat) : List (List Nat) := wk (clX xs) g 5 s
def tellD (xs : List Int) (lead : Int) (row : List Nat) : D := toldD lead (pcsFrom (snX xs) emptyS row)
def wayL (xs : List Int) (p : Nat × Nat) : D := .list ((fam xs p.1 p.2).map (tellD xs (leadX xs)))
def walkL (xs : List Int) (p : Nat × Nat) : D := .list (rowsD (fam xs p.1 p.2))
def E11 (xs : List Int) : En := put (Str.ofString "ways") (.d (.list (endsN.map (wayL xs)))) (E10 xs)
def E12 (xs : List Int) : En := put (Str.ofString "walks") (.d (.list (endsN.map (walkL xs)))) (E11 xs)
theorem ends_ok : ∀ p ∈ endsN, p.1 < 16 ∧ p.2 < 16 ∧ far p.2 p.1 ≤ 4 := by decide +kernel
theorem wst_Sl (xs : List Int) : Wst (Sl xs) 1 0 [] (leadX xs) (snX xs) := ⟨rfl, rfl, by decide, ⟨by decide, allN⟩, leadX_ok xs, fun n hn => (snX_ok xs n hn).lt⟩
theorem law10 (nx : EX ⟨c, k0 + 9, ks31⟩ (lb 12) (E12 xs) (Sl xs) z) : EX ⟨c, k0 + 9, ks31⟩ (lb 10) (E10 xs) (Sl xs) z := by
  refine x_asgC (ss := lb 11) (v := .d (.list (endsN.map (wayL xs)))) (S1 := Sl xs) (by kernel_rfl) (c_map (md := false) (xs := [(Str.ofString "start"), (Str.ofString "goal")]) (L := endsN) (d := fun p => .tuple [.int (p.1 : Int), .int (p.2 : Int)]) (h := wayL xs) (v := fun p => [.d (.int (p.1 : Int)), .d (.int (p.2 : Int))]) (by kernel_rfl) (by kernel_rfl) (src_plain (fun _ _ => rfl) (e_name (by kernel_rfl) rfl) (.lst _)) (fun p _ => .tup (.cons (.cons .nil)) (by kernel_rfl) rfl) (Nat.le_of_ble_eq_true rfl) fun p hp => ?_) (x_asgC (ss := lb 12) (v := .d (.list (endsN.map (walkL xs)))) (S1 := Sl xs) (by kernel_rfl) (c_map (md := false) (xs := [(Str.ofString "start"), (Str.ofString "goal")]) (L := endsN) (d := fun p => .tuple [.int (p.1 : Int), .int (p.2 : Int)]) (h := walkL xs) (v := fun p => [.d (.int (p.1 : Int)), .d (.int (p.2 : Int))]) (by kernel_rfl) (by kernel_rfl) (src_plain (fun _ _ => rfl) (e_name (by kernel_rfl) rfl) (.lst _)) (fun p _ => .tup (.cons (.cons .nil)) (by kernel_rfl) rfl) (Nat.le_of_ble_eq_true rfl) fun p hp => ?_) nx)
  · obtain ⟨h1, h2, h3⟩ := ends_ok p hp
    exact e_fn (by kernel_rfl) (v_cons rfl (e_name (by kernel_rfl) rfl) (v_cons rfl (e_name (by kernel_rfl) rfl) (v_cons rfl (e_name (by kernel_rfl) rfl) (v_cons rfl (e_name (by kernel_rfl) rfl) (v_cons rfl (e_const rfl) (v_cons rfl (e_name (by kernel_rfl) rfl) v_nil)))))) (v_ways (k0 := k0) h2 4 p.1 emptyS [] (by decide) ⟨em_ok, by decide⟩ h1 h3 (by decide) (Sl xs) (wst_Sl xs))
  · obtain ⟨h1, h2, h3⟩ := ends_ok p hp
    exact e_fn (by kernel_rfl) (v_cons rfl (e_name (by kernel_rfl) rfl) (v_cons rfl (e_name (by kernel_rfl) rfl) (v_cons rfl (e_name (by kernel_rfl) rfl) v_nil))) (v_walks (clX xs) p.2 (k0 + 4) h2 4 p.1 h1 h3 (by decide) (Sl xs))
end
theorem bl_ok (st : Int) : PyData.strOk (bl st) = true ∧ (bl st).length ≤ 8 := by
  unfold bl
  split
  · exact ⟨sp_ok, by decide⟩
  · exact ⟨em_ok, by decide⟩
theorem nextB_ok (c : Nat) : ∀ r, PyData.strOk (nextB c r) = true ∧ (nextB c r).length ≤ 8
  | [] => ⟨em_ok, show emptyS.length ≤ 8 by decide⟩
  | _ :: _ => bl_ok _
theorem pcs_ok {sn : Nat → Nat} (hs : ∀ c, c < 16 → sn c < 0x110000) : ∀ {row : List Nat} {b : Str}, PyData.strOk b = true → (∀ c ∈ row, c < 16) → okPs (pcsFrom sn b row)
  | [], _, _, _ => allN
  | c :: r, _, hb, hr => allC ⟨hb, sg_ok (hs c (hr c (.head _)))⟩ (pcs_ok hs (nextB_ok c r).1 fun d hd => hr d (.tail _ hd))
theorem pcs_len {sn : Nat → Nat} : ∀ {row : List Nat} {b : Str}, (pcsFrom sn b row).length = row.length
  | [], _ => rfl
  | _ :: _, _ => congrArg Nat.succ pcs_len
theorem pcs_8 {sn : Nat → Nat} : ∀ {row : List Nat} {b : Str}, b.length ≤ 8 → ∀ p ∈ pcsFrom sn b row, p.1.length ≤ 8 ∧ p.2.length ≤ 8
  | [], _, _ => allN
  | c :: r, _, hb => allC ⟨hb, show (sg (sn c)).length ≤ 8 from (Nat.le_of_ble_eq_true rfl)⟩ (pcs_8 (nextB_ok c r).2)
theorem pcs_few {sn : Nat → Nat} {row : List Nat} (h : row.length ≤ 5) : Few (pcsFrom sn emptyS row) := ⟨eqLe pcs_len (Nat.le_trans h (by decide)), pcs_8 (by decide)⟩
structure RowOk (s : Nat) (row : List Nat) : Prop where
  ch : chain row
  len : row.length ≤ 5
  hd : ∃ r, row = s :: r
theorem wk_chain {cl : List Nat} {goal : Nat} (hg : goal < 16) (m cell : Nat) (row : List Nat) (h : row ∈ wk cl goal m cell) : cell < 16 → chain row ∧ ∃ r, row = cell :: r :=
  wk_all (P := fun _ cell row => cell < 16 → chain row ∧ ∃ r, row = cell :: r) (fun _ _ hc => ⟨hc, _, rfl⟩)
    (fun _ cell r _ h k hc => let ⟨a, _, b⟩ := k ((far_step goal hg cell hc).1 h).2; ⟨by subst b; exact ⟨hc, .inl rfl, a⟩, _, rfl⟩)
    (fun _ cell r _ h k hc => let ⟨a, _, b⟩ := k ((far_step goal hg cell hc).2 h).2; ⟨by subst b; exact ⟨hc, .inr rfl, a⟩, _, rfl⟩) m cell row h
theorem fam_ok {xs : List Int} {p : Nat × Nat} (hp : p ∈ endsN) : ∀ row ∈ fam xs p.1 p.2, RowOk p.1 row := fun row h =>
  let ⟨a, b⟩ := wk_chain (ends_ok p hp).2.1 5 p.1 row h (ends_ok p hp).1
  ⟨a, wk_row h, b⟩
theorem fam_len (xs : List Int) (s g : Nat) : (fam xs s g).length ≤ 243 := wk_len _ _ 5 s
theorem snX_lt {xs : List Int} : ∀ c, c < 16 → snX xs c < 0x110000 := fun c hc => (snX_ok xs c hc).lt
theorem tellD_ok {xs : List Int} {row : List Nat} (h : chain row) {k : Int} {n : Nat} : OkD (n + 3) (tellD xs k row) := toldD_ok (pcs_ok snX_lt em_ok (chain_lt h))
theorem waysL_ok (xs : List Int) : OkD 64 (.list (endsN.map (wayL xs))) := .list fun d hd => by
  obtain ⟨p, hp, rfl⟩ := List.mem_map.mp hd
  exact .list fun d hd => by
    obtain ⟨row, hr, rfl⟩ := List.mem_map.mp hd
    exact tellD_ok (fam_ok hp row hr).ch
section
variable {f : Fr} {e : En} {S : Sto} {x y : Expr} {p : Pos} {w w2 : Bool}
theorem e_andB (h1 : EV f x e S (.d (.bool w), S)) (h2 : EV f y e S (.d (.bool w2), S)) : EV f (.BoolOp .And [x, y] p) e S (.d (.bool (w && w2)), S) := by
  cases w with
  | false => exact e_bool h1 rfl rfl
  | true => exact e_bool h1 rfl h2
end
theorem onlyV_no {k : Int} {ps : List (Str × Str)} (h : k ≠ 0) : onlyV k ps = false := by
  unfold onlyV
  rw [beq_eq_false_iff_ne.mpr h]; rfl
theorem only_split {xs : List Int} {ps : List (Str × Str)} : onlyV (leadX xs) ps = (decide (leadN xs = 0) && onlyV 0 ps) := by
  by_cases h : leadN xs = 0
  · rw [show leadX xs = 0 from congrArg Int.ofNat h, decide_eq_true h]; rfl
  · rw [show onlyV (leadX xs) ps = false from onlyV_no fun q => h (Int.ofNat.inj q), decide_eq_false h]; rfl
def xS : Str := (Str.ofString "x")
theorem x_ok : PyData.strOk xS = true := by decide +kernel
def ps3 : List (Str × Str) := [(emptyS, emptyS), (spS, emptyS), (xS, emptyS)]
def St14 (xs : List Int) (ps : List (Str × Str)) : Sto := [.acc (psD (pagePs (snX xs))) 1, .acc (psD ps) (leadX xs)]
def E15 (xs : List Int) : En := put (Str.ofString "text") (.d (.str xS)) (put (Str.ofString "text") (.d (.str spS)) (put (Str.ofString "text") (.d (.str emptyS)) (E12 xs)))
section
variable {c : Cx} {k0 : Nat} {xs : List Int} {z : Fl × Sto} {e : En}
theorem law12 (nx : EX ⟨c, k0 + 9, ks31⟩ (lb 13) (E12 xs) (Sl xs) z) : EX ⟨c, k0 + 9, ks31⟩ (lb 12) (E12 xs) (Sl xs) z := by
  refine x_skip (ss := lb 13) (S1 := Sl xs) (t_bool (a_cons (w := false) (t_cmp (S1 := Sl xs) (a := .d (.list (endsN.map (wayL xs)))) (b := .d (.list (endsN.map (wayL xs)))) (e_name (by kernel_rfl) rfl) (e_comp (c_map (md := false) (xs := [(Str.ofString "family")]) (L := endsN) (d := walkL xs) (h := wayL xs) (v := fun p => [.d (walkL xs p)]) (by kernel_rfl) (by kernel_rfl) (src_plain (fun _ _ => rfl) (e_name (by kernel_rfl) rfl) (.lst _)) (fun p _ => .name (by kernel_rfl)) (Nat.le_of_ble_eq_true rfl) fun p hp => e_comp (c_map (md := false) (xs := [(Str.ofString "row")]) (L := fam xs p.1 p.2) (d := rowD) (h := tellD xs (leadX xs)) (v := fun r => [.d (rowD r)]) (by kernel_rfl) (by kernel_rfl) (src_plain (fun _ _ => rfl) (e_name (by kernel_rfl) rfl) (.lst _)) (fun p _ => .name (by kernel_rfl)) (le_line (Nat.le_trans (fam_len _ _ _) (by decide))) fun r hr => ?_))) rfl (ne_self (waysL_ok xs))) (a_cons (w := false) (t_cmp (b := .d (.bool true)) (e_fn (by kernel_rfl) (v_cons rfl (e_const rfl) v_nil) (fn_c11 (k := 32) (by decide))) (e_const rfl) rfl rfl) a_nil))) nx
  have R := fam_ok hp r hr
  obtain ⟨q, hq⟩ := R.hd
  exact e_fn (by kernel_rfl) (v_cons rfl (e_fn (by kernel_rfl) (v_cons rfl (e_name (by kernel_rfl) rfl) (v_cons rfl (e_name (by kernel_rfl) rfl) v_nil)) (fn_pieces (Nat.le_trans R.len (by decide)) (chain_lt R.ch) (by rw [hq]; exact Nat.succ_le_succ (Nat.zero_le _)))) (v_cons rfl (e_name (by kernel_rfl) rfl) v_nil)) (fn_due (pcs_few R.len))
theorem few0 : Few [] := ⟨by decide, allN⟩
theorem law13 (nx : EX ⟨c, k0 + 4, ks31⟩ (lb 14) (E12 xs) (Sl xs) z) : EX ⟨c, k0 + 4, ks31⟩ (lb 13) (E12 xs) (Sl xs) z := by
  have hl : FN c (k0 + 4) (Str.ofString "len") [.ref 1] (Sl xs) (.d (.int (leadX xs)), Sl xs) := by
    have := fn_len_acc (c := c) (k0 := k0 + 2) (i := 1) (S := Sl xs) (ps := []) rfl few0 (leadX_ok xs)
    rwa [show accLen (leadX xs) [] = leadX xs from Int.add_zero _] at this
  have ho : ME c (k0 + 4) (Str.ofString "is_onlyws") (.ref 1) [] (Sl xs) (.d (.bool (decide (leadN xs = 0))), Sl xs) := by
    have := me_only (c := c) (k0 := k0) (i := 1) (S := Sl xs) (ps := []) rfl few0 (leadX_ok xs)
    rwa [only_split, show onlyV 0 [] = true by decide +kernel, Bool.and_true] at this
  exact x_skip (ss := lb 14) (S1 := Sl xs) (t_bool (a_cons (w := false) (S1 := Sl xs) (t_cmp (b := .d (.int 0)) (e_me rfl (Nat.le_of_ble_eq_true rfl) rfl (e_name (by kernel_rfl) rfl) v_nil (fun _ h => h) (me_part_count (i := 1) rfl)) (e_const rfl) rfl (ne_self (.int 0))) (a_cons (w := false) (S1 := Sl xs) (t_cmp (a := .d emptyD) (b := .d emptyD) (e_me rfl (Nat.le_of_ble_eq_true rfl) rfl (e_name (by kernel_rfl) rfl) v_nil (fun _ h => h) (me_pop0 (i := 1) rfl)) (e_tuple (v_cons rfl (e_const rfl) (v_cons rfl (e_const rfl) v_nil)) rfl (Nat.le_of_ble_eq_true rfl)) rfl (ne_self (.mono (n := 1) (.tuple (allC (.str em_ok) (allC (.str em_ok) allN))) (by decide)))) (a_cons (w := false) (S1 := Sl xs) (t_cmp (e_fn (by kernel_rfl) (v_cons rfl (e_name (by kernel_rfl) rfl) v_nil) hl) (e_name (by kernel_rfl) rfl) rfl (ne_self (.int _))) (a_cons (w := false) (S1 := Sl xs) (t_cmp (e_me rfl (Nat.le_of_ble_eq_true rfl) rfl (e_name (by kernel_rfl) rfl) v_nil (fun _ h => h) ho) (e_cmp (e_name (by kernel_rfl) rfl) (e_const rfl) rfl (eq_at (b := 0) rfl)) rfl isnot_bool) a_nil))))) nx
theorem txt_cell {t : Str} {w : Bool} {ps : List (Str × Str)} (hp : e (Str.ofString "path") = some (.ref 1)) (hl : e (Str.ofString "lead") = some (.d (.int (leadX xs)))) (hps : ps.length ≤ 3) (F : Few (ps ++ [(t, emptyS)])) (hc : cmpV .NotEq (.d (.str t)) (.d (.str xS)) = some w) (hv : onlyV 0 (ps ++ [(t, emptyS)]) = w) : EX ⟨c, k0 + 4, ks31⟩ (fBod 14) (put (Str.ofString "text") (.d (.str t)) e) (St14 xs ps) (.next (put (Str.ofString "text") (.d (.str t)) e), St14 xs (ps ++ [(t, emptyS)])) := by
  have p1 : ME c (k0 + 4) (Str.ofString "push") (.ref 1) [.d (.str t), .d (.str emptyS)] (St14 xs ps) (.d .none, St14 xs (ps ++ [(t, emptyS)])) := by
    have := me_push (c := c) (k0 := k0 + 3) (i := 1) (S := St14 xs ps) (x := .str t) (y := .str emptyS) rfl (eqLe (congrArg Nat.succ (psD_len ps)) (le_line (Nat.le_trans (Nat.succ_le_succ hps) (by decide))))
    rw [show psD ps ++ [PyData.tuple [.str t, .str emptyS]] = _ from (psD_snoc ps (t, emptyS)).symm] at this
    exact this
  have ho := me_only (c := c) (k0 := k0) (i := 1) (S := St14 xs (ps ++ [(t, emptyS)])) rfl F (leadX_ok xs)
  rw [only_split, hv] at ho
  exact x_expr (S1 := St14 xs (ps ++ [(t, emptyS)])) (fun _ => rfl) (e_me rfl (Nat.le_of_ble_eq_true rfl) rfl (e_name (by kernel_rfl) hp) (v_cons rfl (e_name (by kernel_rfl) rfl) (v_cons rfl (e_const rfl) v_nil)) (fun _ h => h) p1) (x_skip (t_cmp (e_me rfl (Nat.le_of_ble_eq_true rfl) rfl (e_name (by kernel_rfl) hp) v_nil (fun _ h => h) ho) (e_andB (e_cmp (e_name (by kernel_rfl) hl) (e_const rfl) rfl (eq_at (b := 0) rfl)) (e_cmp (e_name (by kernel_rfl) rfl) (e_const rfl) rfl hc)) rfl isnot_bool) x_nil)
theorem law14 (nx : EX ⟨c, k0 + 4, ks31⟩ (lb 15) (E15 xs) (St14 xs ps3) z) : EX ⟨c, k0 + 4, ks31⟩ (lb 14) (E12 xs) (Sl xs) z := by
  have ok : ∀ {t : Str}, PyData.strOk t = true → OkD 64 (.str t) := .str
  have c8 : ∀ {l : List (Str × Str)}, l.length ≤ 1000 → (∀ p ∈ l, p.1.length ≤ 8 ∧ p.2.length ≤ 8) → Few l := fun a b => ⟨a, b⟩
  refine x_for (ss := lb 15) (l := [.str emptyS, .str spS, .str xS]) (S1 := Sl xs) (S2 := St14 xs ps3) (src_plain (fun _ _ => rfl) (e_tuple (v_cons rfl (e_const rfl) (v_cons rfl (e_const rfl) (v_cons rfl (e_const rfl) v_nil))) rfl (Nat.le_of_ble_eq_true rfl)) (.tup _)) ?_ nx
  exact .next (.name (by kernel_rfl)) (txt_cell (ps := []) (w := true) rfl rfl (by decide) (c8 (by decide) (by decide)) (cmp_ne (ok em_ok) (ok x_ok) (by decide +kernel)) (by decide +kernel)) (.next (.name (by kernel_rfl)) (txt_cell (ps := [(emptyS, emptyS)]) (w := true) rfl rfl (by decide) (c8 (by decide) (by decide)) (cmp_ne (ok sp_ok) (ok x_ok) (by decide +kernel)) (by decide +kernel)) (.next (.name (by kernel_rfl)) (txt_cell (ps := [(emptyS, emptyS), (spS, emptyS)]) (w := false) rfl rfl (by decide) (c8 (by decide) (by decide)) (cmp_ne (ok x_ok) (ok x_ok) (by decide +kernel)) (by decide +kernel)) .nil))
end
theorem and_nat (a b : Nat) : Builtin.bitAnd (a : Int) (b : Int) = ((a &&& b : Nat) : Int) := by
  unfold Builtin.bitAnd
  rfl
theorem and_new {m c : Nat} (h : m < 2 ^ c) : m &&& 2 ^ c = 0 := Nat.eq_of_testBit_eq fun i => by
  rw [Nat.testBit_and, Nat.testBit_two_pow, Nat.zero_testBit]
  by_cases e : c = i
  · rw [← e, Nat.testBit_lt_two_pow h]; rfl
  · rw [decide_eq_false e, Bool.and_false]
theorem or_new {m c : Nat} (h : m < 2 ^ c) : Builtin.bitOr (m : Int) ((2 ^ c : Nat) : Int) = ((m + 2 ^ c : Nat) : Int) := by
  rw [bitOr_and, and_nat, and_new h]
  exact Int.sub_zero _
def maskS (row : List Nat) : Int := sumI (row.map fun c => (2 : Int) ^ c)
theorem pow_cast (c : Nat) : (2 : Int) ^ c = ((2 ^ c : Nat) : Int) := (Int.natCast_pow 2 c).symm
theorem mask_sum : ∀ (row : List Nat) (m : Nat), chain row → (∀ c r, row = c :: r → m < 2 ^ c) → maskF row (m : Int) = (m : Int) + maskS row
  | [], m, _, _ => (Int.add_zero _).symm
  | c :: r, m, hc, h => by
    have h0 := h c r rfl
    show maskF r (Builtin.bitOr (m : Int) (1 * 2 ^ c)) = (m : Int) + ((2 : Int) ^ c + maskS r)
    rw [Int.one_mul, pow_cast, or_new h0, mask_sum r (m + 2 ^ c) (chain_hd hc).2 (fun d r' hd => by
      subst hd
      refine Nat.lt_of_lt_of_le (Nat.add_lt_add_right h0 _) (?_ : 2 ^ c + 2 ^ c ≤ 2 ^ d)
      rw [← Nat.mul_two, ← Nat.pow_succ]
      exact Nat.pow_le_pow_right (by decide) (hc.2.1.elim (fun q => q ▸ Nat.le_refl _) fun q => q ▸ Nat.add_le_add_left (show 1 ≤ 4 by decide) _)), ← Int.add_assoc]
    rfl
theorem mask_is {row : List Nat} (h : chain row) : maskF row 0 = maskS row :=
  (mask_sum row 0 h fun _ _ _ => Nat.pow_pos (by decide)).trans (Int.zero_add _)
structure Bd (xs : List Int) (B : Nat) : Prop where
  p : nb (plusX xs) ≤ B
  m : nb (minusX xs) ≤ B
  one : 1 ≤ B
  top : B ≤ 2000000
def wX (xs : List Int) (c : Nat) : Int := wv (plusX xs) (minusX xs) (kdX xs c)
def readD (xs : List Int) (row : List Nat) : D := .tuple [.int (maskS row), .int (worthF (wX xs) row 1)]
def readL (xs : List Int) (p : Nat × Nat) : D := .list ((fam xs p.1 p.2).map (readD xs))
def maskL (xs : List Int) (p : Nat × Nat) : D := .list ((fam xs p.1 p.2).map fun row => .int (maskS row))
def twoL : List (Nat × Nat) := [(1, 11), (4, 14)]
theorem two_ends : ∀ p ∈ twoL, p ∈ endsN := by decide
def E16 (xs : List Int) : En := put (Str.ofString "reads") (.d (.list (twoL.map (readL xs)))) (E15 xs)
def E17 (xs : List Int) : En := put (Str.ofString "masks") (.d (.list (twoL.map (maskL xs)))) (E16 xs)
def E19 (xs : List Int) : En := putN [(Str.ofString "total"), (Str.ofString "swapped")] [.d (.int 0), .ref 2] (E17 xs)
def S14 (xs : List Int) : Sto := St14 xs ps3
theorem maskL_ok (xs : List Int) : OkD 64 (.list (twoL.map (maskL xs))) := .list fun d hd => by
  obtain ⟨p, _, rfl⟩ := List.mem_map.mp hd
  exact .list fun d hd => by
    obtain ⟨row, _, rfl⟩ := List.mem_map.mp hd
    exact .int _
theorem big27_200 : (2 : Int) * 16 ≤ big27 := by decide +kernel
theorem e_pow2 {f : Fr} {e : En} {S S1 : Sto} {p q : Pos} {x : Expr} {kk n : Nat} (h : n < 16) (h1 : EV f x e S (.d (.int (n : Int)), S1)) : EV f (.BinOp (.Constant (.int 2) kk q) .Pow x p) e S (.d (.int ((2 : Int) ^ n)), S1) :=
  e_bin (md := false) (e_const rfl) h1 (by
    show ((if 0 ≤ (n : Int) ∧ (2 : Int) * (n : Int) ≤ big27 then some ((2 : Int) ^ n) else none).map PyData.int).map (fun z => (Val.d z, S1)) = _
    rw [if_pos ⟨Int.natCast_nonneg _, Int.le_trans (Int.mul_le_mul_of_nonneg_left (Int.ofNat_le.mpr (Nat.le_of_lt h)) (by decide)) big27_200⟩]
    rfl)
section
variable {c : Cx} {k0 B : Nat} {xs : List Int} {z : Fl × Sto}
theorem law15 (BD : Bd xs B) (nx : EX ⟨c, k0 + 2, ks31⟩ (lb 16) (E16 xs) (S14 xs) z) : EX ⟨c, k0 + 2, ks31⟩ (lb 15) (E15 xs) (S14 xs) z := by
  have zr : zipD (twoL.map (wayL xs)) [.int 1, .int 4] = twoL.map fun p => .tuple [wayL xs p, .int (p.1 : Int)] := rfl
  refine x_asgC (ss := lb 16) (v := .d (.list (twoL.map (readL xs)))) (S1 := S14 xs) (by kernel_rfl) (c_map (md := false) (xs := [(Str.ofString "family"), (Str.ofString "start")]) (L := twoL) (d := fun p => .tuple [wayL xs p, .int (p.1 : Int)]) (h := readL xs) (v := fun p => [.d (wayL xs p), .d (.int (p.1 : Int))]) (by kernel_rfl) (by kernel_rfl) (zr ▸ src_zip (l := twoL.map (wayL xs)) (m := [.int 1, .int 4]) (by kernel_rfl) rfl rfl (e_slice (e_name (by kernel_rfl) rfl) o_none (o_some (e_const rfl)) o_none rfl) (e_list (v_cons rfl (e_const rfl) (v_cons rfl (e_const rfl) v_nil)) rfl (Nat.le_of_ble_eq_true rfl))) (fun p _ => .tup (.cons (.cons .nil)) (by kernel_rfl) rfl) (Nat.le_of_ble_eq_true rfl) fun p hp => e_comp (c_map (md := false) (xs := [(Str.ofString "way")]) (L := fam xs p.1 p.2) (d := tellD xs (leadX xs)) (h := readD xs) (v := fun r => [.d (tellD xs (leadX xs) r)]) (by kernel_rfl) (by kernel_rfl) (src_plain (fun _ _ => rfl) (e_name (by kernel_rfl) rfl) (.lst _)) (fun p _ => .name (by kernel_rfl)) (le_line (Nat.le_trans (fam_len _ _ _) (by decide))) fun r hr => ?_)) nx
  have R := fam_ok (two_ends p hp) r hr
  obtain ⟨q, rfl⟩ := R.hd
  have := fn_read (c := c) (k0 := k0) (S := S14 xs) (snX_ok xs) BD.p BD.m BD.one BD.top R.ch (Nat.le_trans (Nat.le_of_succ_le R.len) (by decide))
  rw [mask_is R.ch] at this
  exact e_fn (by kernel_rfl) (v_cons rfl (e_sub (e_name (by kernel_rfl) rfl) (e_const rfl) rfl) (v_cons rfl (e_name (by kernel_rfl) rfl) (v_cons rfl (e_name (by kernel_rfl) rfl) (v_cons rfl (e_name (by kernel_rfl) rfl) v_nil)))) this
theorem law16 (nx : EX ⟨c, k0, ks31⟩ (lb 17) (E17 xs) (S14 xs) z) : EX ⟨c, k0, ks31⟩ (lb 16) (E16 xs) (S14 xs) z := by
  refine x_asgC (ss := lb 17) (v := .d (.list (twoL.map (maskL xs)))) (S1 := S14 xs) (by kernel_rfl) (c_map (md := false) (xs := [(Str.ofString "family")]) (L := twoL) (d := walkL xs) (h := maskL xs) (v := fun p => [.d (walkL xs p)]) (by kernel_rfl) (by kernel_rfl) (src_plain (fun _ _ => rfl) (e_slice (e_name (by kernel_rfl) rfl) o_none (o_some (e_const rfl)) o_none rfl) (.lst (twoL.map (walkL xs)))) (fun p _ => .name (by kernel_rfl)) (Nat.le_of_ble_eq_true rfl) fun p hp => e_comp (c_map (md := false) (xs := [(Str.ofString "row")]) (L := fam xs p.1 p.2) (d := rowD) (h := fun row => .int (maskS row)) (v := fun r => [.d (rowD r)]) (by kernel_rfl) (by kernel_rfl) (src_plain (fun _ _ => rfl) (e_name (by kernel_rfl) rfl) (.lst _)) (fun p _ => .name (by kernel_rfl)) (le_line (Nat.le_trans (fam_len _ _ _) (by decide))) fun r hr => e_fn (by kernel_rfl) (v_cons (v := .d (.list ((r.map fun c => (2 : Int) ^ c).map .int))) rfl ?_ v_nil) fn_sum)) nx
  have R := fam_ok (two_ends p hp) r hr
  rw [List.map_map]
  exact e_comp (c_map (md := false) (xs := [(Str.ofString "cell")]) (L := r) (d := fun i => .int (i : Int)) (h := PyData.int ∘ fun c => (2 : Int) ^ c) (v := fun i => [.d (.int (i : Int))]) (by kernel_rfl) (by kernel_rfl) (src_plain (fun _ _ => rfl) (e_name (by kernel_rfl) rfl) (.lst _)) (fun p _ => .name (by kernel_rfl)) (le_line (Nat.le_trans R.len (by decide))) fun i hi => e_pow2 (chain_lt R.ch i hi) (e_name (by kernel_rfl) rfl))
theorem law17 (nx : EX ⟨c, k0, ks31⟩ (lb 18) (E17 xs) (S14 xs) z) : EX ⟨c, k0, ks31⟩ (lb 17) (E17 xs) (S14 xs) z :=
  x_skip (ss := lb 18) (S1 := S14 xs) (t_cmp (a := .d (.list (twoL.map (maskL xs)))) (b := .d (.list (twoL.map (maskL xs)))) (S1 := S14 xs) (e_comp (c_map (md := false) (xs := [(Str.ofString "family")]) (L := twoL) (d := readL xs) (h := maskL xs) (v := fun p => [.d (readL xs p)]) (by kernel_rfl) (by kernel_rfl) (src_plain (fun _ _ => rfl) (e_name (by kernel_rfl) rfl) (.lst _)) (fun p _ => .name (by kernel_rfl)) (Nat.le_of_ble_eq_true rfl) fun p hp => e_comp (c_map (md := false) (xs := [(Str.ofString "read")]) (L := fam xs p.1 p.2) (d := readD xs) (h := fun row => .int (maskS row)) (v := fun r => [.d (readD xs r)]) (by kernel_rfl) (by kernel_rfl) (src_plain (fun _ _ => rfl) (e_name (by kernel_rfl) rfl) (.lst _)) (fun p _ => .name (by kernel_rfl)) (le_line (Nat.le_trans (fam_len _ _ _) (by decide))) fun r hr => e_sub (e_name (by kernel_rfl) rfl) (e_const rfl) rfl))) (e_name (by kernel_rfl) rfl) rfl (ne_self (maskL_ok xs))) nx
theorem law18 (nx : EX ⟨c, k0, ks31⟩ (lb 19) (E19 xs) (S14 xs ++ [.list []]) z) : EX ⟨c, k0, ks31⟩ (lb 18) (E17 xs) (S14 xs) z :=
  x_tup (ss := lb 19) (vs := [.d (.int 0), .ref 2]) (S1 := S14 xs ++ [M.list []]) (.cons (.cons .nil)) (by kernel_rfl) (v_cons rfl (e_const rfl) (v_cons rfl (e_listM v_nil rfl (Nat.zero_le _)) v_nil)) rfl rfl nx
end
def maskN : List Nat → Nat
  | [] => 0
  | c :: r => 2 ^ c + maskN r
theorem maskN_is : ∀ row : List Nat, maskS row = (maskN row : Int)
  | [] => rfl
  | c :: r => by
    show (2 : Int) ^ c + maskS r = ((2 ^ c + maskN r : Nat) : Int)
    rw [maskN_is r, pow_cast]; rfl
theorem maskN_div : ∀ (row : List Nat) (k : Nat), row.Pairwise (· < ·) → (∀ c ∈ row, k ≤ c) → 2 ^ k ∣ maskN row
  | [], k, _, _ => ⟨0, rfl⟩
  | c :: r, k, hp, h => Nat.dvd_add (Nat.pow_dvd_pow 2 (h c (.head _))) (maskN_div r k (List.pairwise_cons.mp hp).2 fun d hd => h d (.tail _ hd))
theorem maskN_bit : ∀ (row : List Nat) (i : Nat), row.Pairwise (· < ·) → (maskN row).testBit i = decide (i ∈ row)
  | [], i, _ => (Nat.zero_testBit i).trans (decide_eq_false List.not_mem_nil).symm
  | c :: r, i, hp => by
    have ⟨h1, h2⟩ := List.pairwise_cons.mp hp
    obtain ⟨q, hq⟩ := maskN_div r (c + 1) h2 fun d hd => h1 d hd
    have ih := maskN_bit r i h2
    rw [hq] at ih
    rw [show maskN (c :: r) = 2 ^ (c + 1) * q + 2 ^ c from (congrArg (2 ^ c + ·) hq).trans (Nat.add_comm _ _), Nat.testBit_two_pow_mul_add _ (Nat.pow_lt_pow_succ (by decide))]
    by_cases hi : i < c + 1
    · rw [if_pos hi, Nat.testBit_two_pow]
      exact decide_eq_decide.mpr ⟨fun q => q ▸ .head _, fun m => (List.mem_cons.mp m).elim Eq.symm fun hm => absurd hi (Nat.not_lt.mpr (h1 i hm))⟩
    · rw [if_neg hi]
      rw [Nat.testBit_two_pow_mul, decide_eq_true (Nat.le_of_not_lt hi), Bool.true_and] at ih
      rw [ih]
      exact decide_eq_decide.mpr ⟨.tail _, fun m => (List.mem_cons.mp m).elim (fun q => absurd (q ▸ Nat.lt_succ_self i) hi) id⟩
def comm (a b : List Nat) : List Nat := a.filter fun c => decide (c ∈ b)
theorem comm_inc {a : List Nat} (b : List Nat) (h : a.Pairwise (· < ·)) : (comm a b).Pairwise (· < ·) := h.sublist List.filter_sublist
theorem and_comm_mask {a b : List Nat} (ha : a.Pairwise (· < ·)) (hb : b.Pairwise (· < ·)) : Builtin.bitAnd (maskS a) (maskS b) = maskS (comm a b) := by
  rw [maskN_is, maskN_is, maskN_is, and_nat]
  refine congrArg Int.ofNat (Nat.eq_of_testBit_eq fun i => ?_)
  rw [Nat.testBit_and, maskN_bit a i ha, maskN_bit b i hb, maskN_bit _ i (comm_inc b ha), ← Bool.decide_and]
  exact decide_eq_decide.mpr ⟨fun h => List.mem_filter.mpr ⟨h.1, decide_eq_true h.2⟩, fun h => ⟨(List.mem_filter.mp h).1, of_decide_eq_true (List.mem_filter.mp h).2⟩⟩
theorem not_lt {b : Nat} : ¬ (0 ≤ Builtin.bitNot (b : Int)) := fun q => by
  have e : Builtin.bitNot (b : Int) = -(b : Int) - 1 := rfl
  omega
theorem not_not (b : Int) : Builtin.bitNot (Builtin.bitNot b) = b := by
  show -(-b - 1) - 1 = b
  omega
theorem and_not_mask {a b : List Nat} : Builtin.bitAnd (maskS a) (Builtin.bitNot (maskS b)) = maskS a - Builtin.bitAnd (maskS a) (maskS b) := by
  rw [maskN_is, maskN_is, and_nat]
  show (match decide (0 ≤ (maskN a : Int)), decide (0 ≤ Builtin.bitNot (maskN b : Int)) with
    | true, true => _
    | true, false => _
    | false, true => _
    | false, false => _) = _
  rw [decide_eq_false not_lt, not_not]
  rfl
theorem bit_at (m c : Nat) : Builtin.bitAnd (((m : Int)).fdiv (2 ^ c)) 1 = ((m.testBit c).toNat : Int) := by
  rw [pow_cast, (Int.ofNat_fdiv _ _).symm, show (1 : Int) = ((1 : Nat) : Int) from rfl, and_nat, Nat.testBit_eq_decide_div_mod_eq, Nat.and_one_is_mod]
  rcases Nat.mod_two_eq_zero_or_one (m / 2 ^ c) with h | h <;> rw [h] <;> rfl
theorem low_of {c : Nat} {r : List Nat} (h : (c :: r).Pairwise (· < ·)) (hc : c < 16) : Low (maskS (c :: r)) c := by
  have key : ∀ d, Builtin.bitAnd ((maskS (c :: r)).fdiv (2 ^ d)) 1 = ((decide (d ∈ c :: r)).toNat : Int) := fun d => by
    rw [maskN_is, bit_at, maskN_bit _ _ h]
  refine ⟨hc, fun d hd => (key d).trans ?_, fun q => ?_⟩
  · rw [decide_eq_false fun hm => (List.mem_cons.mp hm).elim (fun q => Nat.lt_irrefl _ (q ▸ hd)) fun hm => Nat.lt_asymm hd ((List.pairwise_cons.mp h).1 d hm)]
    rfl
  · rw [zbit, key, decide_eq_true (List.mem_cons_self ..)] at q
    exact absurd q (by decide)
def open' (cl : List Nat) (row : List Nat) : Bool := row.all fun c => !cl.contains c
theorem open_cons {cl : List Nat} {cell : Nat} {w : Bool} (h : cl.contains cell = w) : (open' cl ∘ fun x => cell :: x) = fun x => !w && open' cl x := funext fun x => by
  show (!cl.contains cell && open' cl x) = _
  rw [h]
theorem ifL_filter {α : Type} {c : Bool} {l : List α} {p : α → Bool} : (ifL c l).filter p = ifL c (l.filter p) := by cases c <;> rfl
theorem wk_filter (cl : List Nat) (goal : Nat) : ∀ m cell, wk cl goal m cell = (wk [] goal m cell).filter (open' cl)
  | 0, _ => rfl
  | m + 1, cell => by
    rw [show wk [] goal (m + 1) cell = (wkR [] goal m cell).map (cell :: ·) from rfl, List.filter_map]
    cases h : cl.contains cell with
    | true =>
      rw [open_cons h, show wk cl goal (m + 1) cell = [] by unfold wk; rw [h]; rfl]
      show [] = List.map _ (List.filter (fun _ => false) _)
      rw [List.filter_eq_nil_iff.mpr fun _ _ => Bool.false_ne_true]
      rfl
    | false =>
      rw [open_cons h, wk_open h]
      show _ = List.map _ (List.filter (open' cl) _)
      unfold wkR
      rw [List.filter_append, List.filter_append, ifL_filter, ifL_filter, ifL_filter, ← wk_filter cl goal m (cell + 1), ← wk_filter cl goal m (cell + 4)]
      rfl
def famO (p : Nat × Nat) : List (List Nat) := wk [] p.2 5 p.1
abbrev Pr := List Nat × List Nat
def prs (a b : List (List Nat)) : List Pr := a.flatMap fun x => b.map fun y => (x, y)
def cut (p : Pr) : Nat := match comm p.1 p.2 with
  | [] => 0
  | c :: _ => c / 4 + c % 4
def swp (p : Pr) : Pr := (p.1.take (cut p) ++ p.2.drop (cut p), p.2.take (cut p) ++ p.1.drop (cut p))
def meets (p : Pr) : Bool := !(comm p.1 p.2).isEmpty
def crossO : List Pr := (prs (famO (1, 11)) (famO (4, 14))).filter meets
theorem cross_perm : (crossO.map swp).Perm (prs (famO (1, 14)) (famO (4, 11))) := List.isPerm_iff.mp (by decide +kernel)
theorem cross_cells : ∀ p ∈ crossO, ((swp p).1 ++ (swp p).2).Perm (p.1 ++ p.2) := fun p hp =>
  List.isPerm_iff.mp (List.all_eq_true.mp (show crossO.all (fun p => ((swp p).1 ++ (swp p).2).isPerm (p.1 ++ p.2)) = true by decide +kernel) p hp)
structure Cross (p : Pr) : Prop where
  l1 : p.1.length = 5
  l2 : p.2.length = 5
  cut5 : cut p ≤ 5
  cut1 : 1 ≤ cut p
  g1 : p.1[cut p - 1]? = (comm p.1 p.2).head?
  g2 : p.2[cut p - 1]? = (comm p.1 p.2).head?
  some : (comm p.1 p.2).head?.isSome = true
theorem cross_facts : ∀ p ∈ crossO, Cross p := fun p hp =>
  let ⟨a, b, c, d, e, f, g⟩ := (show ∀ p ∈ crossO, p.1.length = 5 ∧ p.2.length = 5 ∧ cut p ≤ 5 ∧ 1 ≤ cut p ∧ p.1[cut p - 1]? = (comm p.1 p.2).head? ∧ p.2[cut p - 1]? = (comm p.1 p.2).head? ∧ (comm p.1 p.2).head?.isSome = true by decide +kernel) p hp
  ⟨a, b, c, d, e, f, g⟩
def open2 (cl : List Nat) (p : Pr) : Bool := open' cl p.1 && open' cl p.2
theorem prs_filter (cl : List Nat) (a b : List (List Nat)) : prs (a.filter (open' cl)) (b.filter (open' cl)) = (prs a b).filter (open2 cl) := by
  induction a with
  | nil => rfl
  | cons x a ih =>
    rw [show prs (x :: a) b = (b.map fun y => (x, y)) ++ prs a b from rfl, List.filter_append, ← ih, List.filter_map]
    have e : (open2 cl ∘ fun y => (x, y)) = fun y => open' cl x && open' cl y := rfl
    rw [e]
    cases hx : open' cl x with
    | true =>
      rw [List.filter_cons_of_pos hx]
      rfl
    | false =>
      rw [List.filter_cons_of_neg (Bool.eq_false_iff.mp hx)]
      show _ = List.map _ (List.filter (fun _ => false) _) ++ _
      rw [List.filter_eq_nil_iff.mpr fun _ _ => Bool.false_ne_true]
      rfl
def wrow (w : Nat → Int) (row : List Nat) : Int := worthF w row 1
def sumW (w : Nat → Int) (p : Nat × Nat) : Int := sumI ((famO p).map (wrow w))
theorem dp_1_11 (w : Nat → Int) : dp w 1 11 = sumW w (1, 11) := by
  have e : dp w 1 11 = w 11 * (w 7 * (w 3 * (0 + w 2 * (0 + w 1 * 1)) + w 6 * (w 2 * (0 + w 1 * 1) + w 5 * (w 1 * 1 + w 4 * (w 0 * (0 + 0) + 0)))) + w 10 * (w 6 * (w 2 * (0 + w 1 * 1) + w 5 * (w 1 * 1 + w 4 * (w 0 * (0 + 0) + 0))) + w 9 * (w 5 * (w 1 * 1 + w 4 * (w 0 * (0 + 0) + 0)) + w 8 * (w 4 * (w 0 * (0 + 0) + 0) + 0)))) := by kernel_rfl
  have e2 : sumW w (1, 11) = 1 * w 1 * w 2 * w 3 * w 7 * w 11 + (1 * w 1 * w 2 * w 6 * w 7 * w 11 + (1 * w 1 * w 2 * w 6 * w 10 * w 11 + (1 * w 1 * w 5 * w 6 * w 7 * w 11 + (1 * w 1 * w 5 * w 6 * w 10 * w 11 + (1 * w 1 * w 5 * w 9 * w 10 * w 11 + 0))))) := by kernel_rfl
  rw [e, e2]
  grind
theorem dp_4_14 (w : Nat → Int) : dp w 4 14 = sumW w (4, 14) := by
  have e : dp w 4 14 = w 14 * (w 10 * (w 6 * (w 2 * (0 + w 1 * (0 + w 0 * (0 + 0))) + w 5 * (w 1 * (0 + w 0 * (0 + 0)) + w 4 * 1)) + w 9 * (w 5 * (w 1 * (0 + w 0 * (0 + 0)) + w 4 * 1) + w 8 * (w 4 * 1 + 0))) + w 13 * (w 9 * (w 5 * (w 1 * (0 + w 0 * (0 + 0)) + w 4 * 1) + w 8 * (w 4 * 1 + 0)) + w 12 * (w 8 * (w 4 * 1 + 0) + 0))) := by kernel_rfl
  have e2 : sumW w (4, 14) = 1 * w 4 * w 5 * w 6 * w 10 * w 14 + (1 * w 4 * w 5 * w 9 * w 10 * w 14 + (1 * w 4 * w 5 * w 9 * w 13 * w 14 + (1 * w 4 * w 8 * w 9 * w 10 * w 14 + (1 * w 4 * w 8 * w 9 * w 13 * w 14 + (1 * w 4 * w 8 * w 12 * w 13 * w 14 + 0))))) := by kernel_rfl
  rw [e, e2]
  grind
theorem dp_1_14 (w : Nat → Int) : dp w 1 14 = sumW w (1, 14) := by
  have e : dp w 1 14 = w 14 * (w 10 * (w 6 * (w 2 * (0 + w 1 * 1) + w 5 * (w 1 * 1 + w 4 * (w 0 * (0 + 0) + 0))) + w 9 * (w 5 * (w 1 * 1 + w 4 * (w 0 * (0 + 0) + 0)) + w 8 * (w 4 * (w 0 * (0 + 0) + 0) + 0))) + w 13 * (w 9 * (w 5 * (w 1 * 1 + w 4 * (w 0 * (0 + 0) + 0)) + w 8 * (w 4 * (w 0 * (0 + 0) + 0) + 0)) + w 12 * (w 8 * (w 4 * (w 0 * (0 + 0) + 0) + 0) + 0))) := by kernel_rfl
  have e2 : sumW w (1, 14) = 1 * w 1 * w 2 * w 6 * w 10 * w 14 + (1 * w 1 * w 5 * w 6 * w 10 * w 14 + (1 * w 1 * w 5 * w 9 * w 10 * w 14 + (1 * w 1 * w 5 * w 9 * w 13 * w 14 + 0))) := by kernel_rfl
  rw [e, e2]
  grind
theorem dp_4_11 (w : Nat → Int) : dp w 4 11 = sumW w (4, 11) := by
  have e : dp w 4 11 = w 11 * (w 7 * (w 3 * (0 + w 2 * (0 + w 1 * (0 + w 0 * (0 + 0)))) + w 6 * (w 2 * (0 + w 1 * (0 + w 0 * (0 + 0))) + w 5 * (w 1 * (0 + w 0 * (0 + 0)) + w 4 * 1))) + w 10 * (w 6 * (w 2 * (0 + w 1 * (0 + w 0 * (0 + 0))) + w 5 * (w 1 * (0 + w 0 * (0 + 0)) + w 4 * 1)) + w 9 * (w 5 * (w 1 * (0 + w 0 * (0 + 0)) + w 4 * 1) + w 8 * (w 4 * 1 + 0)))) := by kernel_rfl
  have e2 : sumW w (4, 11) = 1 * w 4 * w 5 * w 6 * w 7 * w 11 + (1 * w 4 * w 5 * w 6 * w 10 * w 11 + (1 * w 4 * w 5 * w 9 * w 10 * w 11 + (1 * w 4 * w 8 * w 9 * w 10 * w 11 + 0))) := by kernel_rfl
  rw [e, e2]
  grind
theorem chain_inc : ∀ {row : List Nat}, chain row → row.Pairwise (· < ·)
  | [], _ => .nil
  | [c], _ => List.pairwise_singleton ..
  | c :: d :: r, h => by
    have ih := chain_inc h.2.2
    have hcd : c < d := h.2.1.elim (fun q => q ▸ Nat.lt_succ_self c) fun q => q ▸ Nat.lt_add_of_pos_right (by decide)
    exact List.pairwise_cons.mpr ⟨fun x hx => (List.mem_cons.mp hx).elim (fun q => q ▸ hcd) fun hx => Nat.lt_trans hcd ((List.pairwise_cons.mp ih).1 x hx), ih⟩
theorem maskS_pos {c : Nat} {r : List Nat} : maskS (c :: r) ≠ 0 := fun h => by
  rw [maskN_is] at h
  exact Nat.ne_of_gt (Nat.lt_of_lt_of_le (Nat.pow_pos (n := c) (by decide : 0 < 2)) (Nat.le_add_right _ _)) (Int.ofNat.inj h)
def pcX (xs : List Int) (row : List Nat) : List (Str × Str) := pcsFrom (snX xs) emptyS row
def exP (xs : List Int) (p : Pr) : D := exD (pcX xs p.1) (pcX xs p.2) (cut p)
def stp (xs : List Int) (t : Int × List D) (p : Pr) : Int × List D := bif meets p then (t.1, t.2 ++ [exP xs p]) else (t.1 + worthF (wX xs) p.1 1 * worthF (wX xs) p.2 1, t.2)
theorem exD_one {α : Type} {x y : List α} {j : Nat} (hx : j ≤ x.length) (hy : j ≤ y.length) : (x.take j ++ y.drop j).take j ++ (y.take j ++ x.drop j).drop j = x := by
  have l1 : (x.take j).length = j := List.length_take_of_le hx
  have l2 : (y.take j).length = j := List.length_take_of_le hy
  rw [List.take_left' l1, List.drop_left' l2, List.take_append_drop]
theorem exD_twice {a b : List (Str × Str)} {j : Nat} (ha : j ≤ a.length) (hb : j ≤ b.length) : exD (a.take j ++ b.drop j) (b.take j ++ a.drop j) j = .tuple [toldD 0 a, toldD 0 b] := by
  unfold exD
  rw [exD_one ha hb, exD_one hb ha]
def inTgt : Expr := match fBod 19 with
  | .For t _ _ _ _ :: _ => t
  | _ => .Constant .none 0 default
def inBod : List Stmt := match fBod 19 with
  | .For _ _ b _ _ :: _ => b
  | _ => []
def X19i : List Str := [(Str.ofString "other"), (Str.ofString "told"), (Str.ofString "more"), (Str.ofString "common"), (Str.ofString "pair"), (Str.ofString "total")]
def St19 (xs : List Int) (sw : List D) : Sto := [.acc (psD (pagePs (snX xs))) 1, .acc (psD ps3) (leadX xs), .list sw]
theorem EqX.put {X : List Str} {e0 e : En} {x : Str} {v : Val} (h : EqX X e0 e) (hx : x ∈ X) : EqX X e0 (put x v e) := fun y hy =>
  (put_ne (beq_eq_false_iff_ne.mpr fun (q : y = x) => hy (q.symm ▸ hx)) rfl).trans (h y hy)
theorem EqX.trans {X : List Str} {e0 e1 e2 : En} (h1 : EqX X e0 e1) (h2 : EqX X e1 e2) : EqX X e0 e2 := fun y hy => (h2 y hy).trans (h1 y hy)
theorem EqX.more {X Y : List Str} {e0 e : En} (h : EqX X e0 e) (k : ∀ y ∈ X, y ∈ Y) : EqX Y e0 e := fun y hy => h y fun m => hy (k y m)
structure Row3 (xs : List Int) (e : En) (a b d : Str) (row : List Nat) : Prop where
  way : e a = some (.d (tellD xs (leadX xs) row))
  read : e b = some (.d (readD xs row))
  row : e d = some (.d (rowD row))
theorem take_len {α : Type} {x y : List α} {j n : Nat} (hx : x.length = n) (hy : y.length = n) (hj : j ≤ n) : (x.take j ++ y.drop j).length = n := by
  rw [List.length_append, List.length_take_of_le (hx ▸ hj), List.length_drop, hy, Nat.add_sub_cancel' hj]
section
variable {c : Cx} {k0 : Nat} {xs : List Int} {e : En}
theorem dbl_cell {s1 s2 : Nat} {row more : List Nat} (R1 : RowOk s1 row) (R2 : RowOk s2 more) (hl1 : row.length = 5) (hl2 : more.length = 5) (hct : cut (row, more) ≤ 5) {tot : Int} {sw : List D} (hsw : sw.length ≤ 100)
    (hb : nb (worthF (wX xs) row 1) + nb (worthF (wX xs) more 1) ≤ 100000000)
    (A : Row3 xs e (Str.ofString "way") (Str.ofString "read") (Str.ofString "row") row) (B : Row3 xs e (Str.ofString "other") (Str.ofString "told") (Str.ofString "more") more)
    (h7 : e (Str.ofString "total") = some (.d (.int tot))) (h8 : e (Str.ofString "swapped") = some (.ref 2)) {P : Prop}
    (nx : ∀ e1, EqX X19i e e1 → e1 (Str.ofString "total") = some (.d (.int (stp xs (tot, sw) (row, more)).1)) → (EX ⟨c, k0 + 9, ks31⟩ inBod e (St19 xs sw) (.next e1, St19 xs (stp xs (tot, sw) (row, more)).2) ∨ EX ⟨c, k0 + 9, ks31⟩ inBod e (St19 xs sw) (.cont e1, St19 xs (stp xs (tot, sw) (row, more)).2)) → P) : P := by
  have i1 := chain_inc R1.ch
  have hC := and_comm_mask i1 (chain_inc R2.ch)
  have hO : Builtin.bitOr (maskS row) (maskS more) = maskS row + maskS more - maskS (comm row more) := hC ▸ bitOr_and _ _
  have hN : Builtin.bitAnd (maskS row) (Builtin.bitNot (maskS more)) = maskS row - maskS (comm row more) := hC ▸ and_not_mask
  have go : ∀ {zf : Fl × Sto}, EX ⟨c, k0 + 9, ks31⟩ (inBod.drop 3) (put (Str.ofString "common") (.d (.int (maskS (comm row more)))) e) (St19 xs sw) zf → EX ⟨c, k0 + 9, ks31⟩ inBod e (St19 xs sw) zf := fun {zf} g => by
    refine x_asg (ss := inBod.drop 1) (by kernel_rfl) (fun _ => rfl) (e_fn (by kernel_rfl) (v_cons rfl (e_sub (e_name (by kernel_rfl) A.read) (e_const rfl) rfl) (v_cons rfl (e_sub (e_name (by kernel_rfl) B.read) (e_const rfl) rfl) v_nil)) (hC ▸ fn_iand)) (x_skip (ss := inBod.drop 2) (S1 := St19 xs sw) (t_bool (a_cons (w := false) (S1 := St19 xs sw) (t_cmp (a := .d (.int (maskS (comm row more)))) (b := .d (.int (maskS (comm row more)))) (S1 := St19 xs sw) (e_name (by kernel_rfl) rfl) (e_fn (by kernel_rfl) (v_cons (v := .d (.list (((comm row more).map fun c => (2 : Int) ^ c).map .int))) (S1 := St19 xs sw) rfl (e_comp ?_) v_nil) fn_sum) rfl (ne_self (.int _))) (a_cons (w := false) (t_cmp (b := .d (.int (maskS row + maskS more - maskS (comm row more)))) (e_fn (by kernel_rfl) (v_cons rfl (e_sub (e_name (by kernel_rfl) A.read) (e_const rfl) rfl) (v_cons rfl (e_sub (e_name (by kernel_rfl) B.read) (e_const rfl) rfl) v_nil)) (hO ▸ fn_ior)) (e_bin (md := false) (e_bin (md := false) (e_sub (e_name (by kernel_rfl) A.read) (e_const rfl) rfl) (e_sub (e_name (by kernel_rfl) B.read) (e_const rfl) rfl) rfl) (e_name (by kernel_rfl) rfl) rfl) rfl (ne_self (.int _))) a_nil))) (x_skip (ss := inBod.drop 3) (t_cmp (b := .d (.int (maskS row - maskS (comm row more)))) (e_fn (by kernel_rfl) (v_cons rfl (e_sub (e_name (by kernel_rfl) A.read) (e_const rfl) rfl) (v_cons rfl (e_fn (by kernel_rfl) (v_cons rfl (e_sub (e_name (by kernel_rfl) B.read) (e_const rfl) rfl) v_nil) fn_inv) v_nil)) (hN ▸ fn_iand)) (e_bin (md := false) (e_sub (e_name (by kernel_rfl) A.read) (e_const rfl) rfl) (e_name (by kernel_rfl) rfl) rfl) rfl (ne_self (.int _))) g))
    rw [List.map_map]
    exact c_filter (md := false) (xs := [(Str.ofString "cell")]) (L := row) (d := fun i => .int (i : Int)) (h := PyData.int ∘ fun c => (2 : Int) ^ c) (w := fun i => decide (i ∈ more)) (v := fun i => [.d (.int (i : Int))]) (by kernel_rfl) (by kernel_rfl) (src_plain (fun _ _ => rfl) (e_name (by kernel_rfl) A.row) (.lst _)) (fun p _ => .name (by kernel_rfl)) (le_line (Nat.le_trans R1.len (by decide))) (fun i hi => a_one (t_cmp (e_name (by kernel_rfl) rfl) (e_name (by kernel_rfl) B.row) rfl (in_cs.trans (congrArg some (List.contains_eq_mem _ _))))) fun i hi _ => e_pow2 (chain_lt R1.ch i hi) (e_name (by kernel_rfl) rfl)
  have in1 : ∀ {v : Val}, EqX X19i e (put (Str.ofString "common") v e) := EqX.put (fun _ _ => rfl) (by decide +kernel)
  have st : ∀ {l : List Nat}, comm row more = l → stp xs (tot, sw) (row, more) = bif !l.isEmpty then (tot, sw ++ [exP xs (row, more)]) else (tot + worthF (wX xs) row 1 * worthF (wX xs) more 1, sw) := fun h => h ▸ rfl
  cases hcm : comm row more with
  | nil =>
    rw [hcm] at go
    rw [st hcm] at nx
    exact nx (put (Str.ofString "total") (.d (.int (tot + worthF (wX xs) row 1 * worthF (wX xs) more 1))) (put (Str.ofString "common") (.d (.int 0)) e)) (in1.put (by decide +kernel)) rfl (.inr (go (x_ifc (t_cmp (e_name (by kernel_rfl) rfl) (e_const rfl) rfl rfl) (x_asg (by kernel_rfl) (fun _ => rfl) (e_fn (by kernel_rfl) (v_cons rfl (e_name (by kernel_rfl) h7) (v_cons rfl (e_fn (by kernel_rfl) (v_cons rfl (e_sub (e_name (by kernel_rfl) A.read) (e_const rfl) rfl) (v_cons rfl (e_sub (e_name (by kernel_rfl) B.read) (e_const rfl) rfl) v_nil)) (fn_imul (mul_small hb))) v_nil)) fn_iadd) x_contS))))
  | cons c0 cr =>
    have hjc : c0 / 4 + c0 % 4 = cut (row, more) := by
      show _ = (match comm row more with
        | [] => 0
        | c :: _ => c / 4 + c % 4)
      rw [hcm]
    have hinc := hcm ▸ comm_inc more i1
    have hc0 : c0 ∈ comm row more := hcm ▸ List.mem_cons_self ..
    have L := low_of hinc (chain_lt R1.ch c0 (List.mem_filter.mp hc0).1)
    rw [hcm] at go
    rw [st hcm] at nx
    have fa : Few (pcX xs row) := pcs_few R1.len
    have fb : Few (pcX xs more) := pcs_few R2.len
    have la : (pcX xs row).length = 5 := pcs_len.trans hl1
    have lb : (pcX xs more).length = 5 := pcs_len.trans hl2
    have ok : OkD 64 (.tuple [toldD 0 (pcX xs row), toldD 0 (pcX xs more)]) := .mono (n := 4) (.tuple (allC (tellD_ok R1.ch) (allC (tellD_ok R2.ch) allN))) (by decide)
    have t20 : ∀ {n : Nat}, n = 5 → n ≤ 20 := fun h => h ▸ by decide
    have ja : ∀ {n : Nat}, n = 5 → cut (row, more) ≤ n := fun h => h ▸ hct
    have ex1 := fn_exchange (c := c) (k0 := k0 + 4) (S := St19 xs sw) L hjc fa fb (t20 la) (t20 lb) (ja la) (ja lb)
    have ex2 := fn_exchange (c := c) (k0 := k0 + 4) (S := St19 xs sw) L hjc (fa.cut fb (t20 la) (t20 lb)) (fb.cut fa (t20 lb) (t20 la)) (t20 (take_len la lb hct)) (t20 (take_len lb la hct)) (ja (take_len la lb hct)) (ja (take_len lb la hct))
    rw [exD_twice (ja la) (ja lb)] at ex2
    have due : ∀ {ps : List (Str × Str)}, Few ps → FN c (k0 + 9) (Str.ofString "_law_due") [.d (.list (psD ps)), .d (.int 0)] (St19 xs sw) (.d (toldD 0 ps), St19 xs sw) := fun h => fn_due h
    exact nx (put (Str.ofString "pair") (.d (exP xs (row, more))) (put (Str.ofString "common") (.d (.int (maskS (c0 :: cr)))) e)) (in1.put (by decide +kernel)) h7 (.inl (go (x_skip (S1 := St19 xs sw) (t_cmp (e_name (by kernel_rfl) rfl) (e_const rfl) rfl (congrArg some (decide_eq_false maskS_pos))) (x_asg (by kernel_rfl) (fun _ => rfl) (e_fn (by kernel_rfl) (v_cons rfl (e_sub (e_name (by kernel_rfl) A.way) (e_const rfl) rfl) (v_cons rfl (e_sub (e_name (by kernel_rfl) B.way) (e_const rfl) rfl) (v_cons rfl (e_name (by kernel_rfl) rfl) v_nil))) ex1) (x_skip (S1 := St19 xs sw) (t_cmp (e_fn (by kernel_rfl) (v_cons rfl (e_sub (e_sub (e_name (by kernel_rfl) rfl) (e_const rfl) rfl) (e_const rfl) rfl) (v_cons rfl (e_sub (e_sub (e_name (by kernel_rfl) rfl) (e_const rfl) rfl) (e_const rfl) rfl) (v_cons rfl (e_name (by kernel_rfl) rfl) v_nil))) ex2) (e_tuple (v_cons rfl (e_fn (by kernel_rfl) (v_cons rfl (e_sub (e_name (by kernel_rfl) A.way) (e_const rfl) rfl) (v_cons rfl (e_const rfl) v_nil)) (due fa)) (v_cons rfl (e_fn (by kernel_rfl) (v_cons rfl (e_sub (e_name (by kernel_rfl) B.way) (e_const rfl) rfl) (v_cons rfl (e_const rfl) v_nil)) (due fb)) v_nil)) rfl (Nat.le_of_ble_eq_true rfl)) rfl (ne_self ok)) (x_expr (fun _ => rfl) (e_me rfl (Nat.le_of_ble_eq_true rfl) rfl (e_name (by kernel_rfl) h8) (v_cons rfl (e_name (by kernel_rfl) rfl) v_nil) (fun _ h => h) (me_append (i := 2) rfl (Nat.lt_of_le_of_lt hsw (Nat.le_of_ble_eq_true rfl)))) x_nil))))))
end
theorem zip3D_map {α : Type} (f g h : α → D) : ∀ l : List α, zip3D (l.map f) (l.map g) (l.map h) = l.map fun a => .tuple [f a, g a, h a]
  | [] => rfl
  | a :: l => congrArg (PyData.tuple [f a, g a, h a] :: ·) (zip3D_map f g h l)
theorem wX_bits {xs : List Int} {B : Nat} (BD : Bd xs B) (c : Nat) : nb (wX xs c) ≤ B := wv_bits BD.p BD.m BD.one
theorem worth_bits {w : Nat → Int} {B : Nat} (hw : ∀ c, nb (w c) ≤ B) : ∀ (row : List Nat) (x : Int), nb (worthF w row x) ≤ nb x + row.length * B
  | [], x => Nat.le_add_right _ _
  | c :: row, x => by
    refine Nat.le_trans (worth_bits hw row (x * w c)) ?_
    rw [List.length_cons, Nat.succ_mul, Nat.add_comm (row.length * B), ← Nat.add_assoc]
    exact Nat.add_le_add_right (Nat.le_trans (bits_mul _ _) (Nat.add_le_add_left (hw c) _)) _
theorem worth5 {xs : List Int} {B : Nat} (BD : Bd xs B) {row : List Nat} (h : row.length = 5) : nb (worthF (wX xs) row 1) ≤ 50000000 :=
  Nat.le_trans (h ▸ worth_bits (wX_bits BD) row 1) (Nat.le_trans (Nat.add_le_add_left (Nat.mul_le_mul_left 5 BD.top) 1) (by decide))
def X19 : List Str := [(Str.ofString "way"), (Str.ofString "read"), (Str.ofString "row"), (Str.ofString "other"), (Str.ofString "told"), (Str.ofString "more"), (Str.ofString "common"), (Str.ofString "pair"), (Str.ofString "total")]
def rowT (xs : List Int) (row : List Nat) : D := .tuple [tellD xs (leadX xs) row, readD xs row, rowD row]
theorem stp_len (xs : List Int) : ∀ (l : List Pr) (t : Int × List D), ((l.foldl (stp xs) t).2).length ≤ t.2.length + l.length
  | [], _ => Nat.le_refl _
  | p :: l, t => by
    refine Nat.le_trans (stp_len xs l (stp xs t p)) ?_
    rw [List.length_cons, Nat.add_comm l.length, ← Nat.add_assoc]
    refine Nat.add_le_add_right ?_ _
    unfold stp
    cases meets p
    · exact Nat.le_succ _
    · exact Nat.le_of_eq List.length_append
theorem fam_is (xs : List Int) (s g : Nat) : fam xs s g = (famO (s, g)).filter (open' (clX xs)) := wk_filter _ _ _ _
theorem fam_in {xs : List Int} {s g : Nat} {row : List Nat} (h : row ∈ fam xs s g) : row ∈ famO (s, g) := (List.mem_filter.mp (fam_is xs s g ▸ h)).1
theorem famO_len : ∀ p ∈ endsN, (famO p).length ≤ 6 := by decide +kernel
theorem fam_six {xs : List Int} {s g : Nat} (h : (s, g) ∈ endsN) : (fam xs s g).length ≤ 6 := fam_is xs s g ▸ Nat.le_trans (List.length_filter_le _ _) (famO_len _ h)
theorem mem_prs {a b : List (List Nat)} {x y : List Nat} (hx : x ∈ a) (hy : y ∈ b) : (x, y) ∈ prs a b := List.mem_flatMap.mpr ⟨x, hx, List.mem_map.mpr ⟨y, hy, rfl⟩⟩
theorem all_cut : ∀ p ∈ prs (famO (1, 11)) (famO (4, 14)), cut p ≤ 5 := by decide +kernel
theorem len5 : ∀ p ∈ twoL, ∀ x ∈ famO p, x.length = 5 := by decide +kernel
def dbl (xs : List Int) : Int × List D := (prs (fam xs 1 11) (fam xs 4 14)).foldl (stp xs) (0, [])
section
variable {c : Cx} {k0 B : Nat} {xs : List Int} {z : Fl × Sto} {P : Prop}
theorem dbl_inner (BD : Bd xs B) {s1 s2 : Nat} {row : List Nat} (R1 : RowOk s1 row) (hl1 : row.length = 5) {e0 : En} (A : Row3 xs e0 (Str.ofString "way") (Str.ofString "read") (Str.ofString "row") row) (h8 : e0 (Str.ofString "swapped") = some (.ref 2)) :
    ∀ (l : List (List Nat)) (t : Int × List D) (e : En), (∀ more ∈ l, RowOk s2 more ∧ more.length = 5 ∧ cut (row, more) ≤ 5) → t.2.length + l.length ≤ 100 → EqX X19i e0 e → e (Str.ofString "total") = some (.d (.int t.1)) →
    (∀ e1, EqX X19i e0 e1 → e1 (Str.ofString "total") = some (.d (.int ((l.map fun y => (row, y)).foldl (stp xs) t).1)) → FG ⟨c, k0 + 9, ks31⟩ inTgt inBod (l.map (rowT xs)) e (St19 xs t.2) (.next e1, St19 xs ((l.map fun y => (row, y)).foldl (stp xs) t).2) → P) → P
  | [], t, e, _, _, ha, ht, nx => nx e ha ht .nil
  | more :: l, t, e, hl, hz, ha, ht, nx => by
    obtain ⟨R2, hl2, hct⟩ := hl more (.head _)
    have ag : EqX X19i e0 (putN [(Str.ofString "other"), (Str.ofString "told"), (Str.ofString "more")] [.d (tellD xs (leadX xs) more), .d (readD xs more), .d (rowD more)] e) := ((ha.put (by decide +kernel)).put (by decide +kernel)).put (by decide +kernel)
    have hz1 : t.2.length + 1 + l.length ≤ 100 := by rw [Nat.add_assoc, Nat.add_comm 1]; exact hz
    refine dbl_cell (c := c) (k0 := k0) (tot := t.1) (sw := t.2) R1 R2 hl1 hl2 hct (Nat.le_trans (Nat.le_add_right _ _) hz) (Nat.add_le_add (worth5 BD hl1) (worth5 BD hl2)) ⟨(ag _ (by decide +kernel)).trans A.way, (ag _ (by decide +kernel)).trans A.read, (ag _ (by decide +kernel)).trans A.row⟩ ⟨rfl, rfl, rfl⟩ ht ((ag _ (by decide +kernel)).trans h8) fun e1 a1 t1 x => ?_
    refine dbl_inner BD R1 hl1 A h8 l (stp xs t (row, more)) e1 (fun m hm => hl m (.tail _ hm)) (Nat.le_trans (Nat.add_le_add_right (stp_len xs [(row, more)] t) _) hz1) (ag.trans a1) t1 fun e2 a2 t2 fg => nx e2 a2 t2 ?_
    exact x.elim (fun x => .next (.tup (.cons (.cons (.cons .nil))) (by kernel_rfl) rfl) x fg) fun x => .cont (.tup (.cons (.cons (.cons .nil))) (by kernel_rfl) rfl) x fg
theorem dbl_outer (BD : Bd xs B) : ∀ (l : List (List Nat)) (t : Int × List D) (e : En), (∀ row ∈ l, row ∈ fam xs 1 11) → t.2.length + l.length * 6 ≤ 80 → EqX X19 (E19 xs) e → e (Str.ofString "total") = some (.d (.int t.1)) →
    (∀ e1, EqX X19 (E19 xs) e1 → e1 (Str.ofString "total") = some (.d (.int ((prs l (fam xs 4 14)).foldl (stp xs) t).1)) → FG ⟨c, k0 + 9, ks31⟩ (fTgt 19) (fBod 19) (l.map (rowT xs)) e (St19 xs t.2) (.next e1, St19 xs ((prs l (fam xs 4 14)).foldl (stp xs) t).2) → P) → P
  | [], t, e, _, _, ha, ht, nx => nx e ha ht .nil
  | row :: l, t, e, hl, hz, ha, ht, nx => by
    have hrow := hl row (.head _)
    have R1 := fam_ok (p := (1, 11)) (by decide) row hrow
    have ag : EqX X19 (E19 xs) (putN [(Str.ofString "way"), (Str.ofString "read"), (Str.ofString "row")] [.d (tellD xs (leadX xs) row), .d (readD xs row), .d (rowD row)] e) := ((ha.put (by decide +kernel)).put (by decide +kernel)).put (by decide +kernel)
    rw [show prs (row :: l) (fam xs 4 14) = ((fam xs 4 14).map fun y => (row, y)) ++ prs l (fam xs 4 14) from rfl, List.foldl_append] at nx
    have hz1 : t.2.length + 6 + l.length * 6 ≤ 80 := by rw [Nat.add_assoc, Nat.add_comm 6, ← Nat.succ_mul]; exact hz
    have hz2 := Nat.le_trans (stp_len xs ((fam xs 4 14).map fun y => (row, y)) t) (Nat.add_le_add_left (eqLe (List.length_map _) (fam_six (s := 4) (g := 14) (by decide))) _)
    refine dbl_inner (c := c) (k0 := k0) (s2 := 4) BD R1 (len5 (1, 11) (by decide) row (fam_in hrow)) (e0 := putN [(Str.ofString "way"), (Str.ofString "read"), (Str.ofString "row")] [.d (tellD xs (leadX xs) row), .d (readD xs row), .d (rowD row)] e) ⟨rfl, rfl, rfl⟩ ((ag _ (by decide +kernel)).trans rfl) (fam xs 4 14) t _ (fun m hm => ⟨fam_ok (p := (4, 14)) (by decide) m hm, len5 (4, 14) (by decide) m (fam_in hm), all_cut _ (mem_prs (fam_in hrow) (fam_in hm))⟩) (Nat.le_trans (Nat.add_le_add_left (fam_six (s := 4) (g := 14) (by decide)) _) (Nat.le_trans (Nat.le_trans (Nat.le_add_right _ _) hz1) (by decide))) (fun _ _ => rfl) ht fun e1 a1 t1 fg1 => ?_
    refine dbl_outer BD l _ e1 (fun m hm => hl m (.tail _ hm)) (Nat.le_trans (Nat.add_le_add_right hz2 _) hz1) (ag.trans (a1.more (by decide +kernel))) t1 fun e2 a2 t2 fg => nx e2 a2 t2 (.next (.tup (.cons (.cons (.cons .nil))) (by kernel_rfl) rfl) (x_for (?_ : SRC _ _ _ _ _ ((fam xs 4 14).map (rowT xs), St19 xs t.2, none)) fg1 x_nil) fg)
    exact zip3D_map (tellD xs (leadX xs)) (readD xs) rowD (fam xs 4 14) ▸ src_zip3 (l := (fam xs 4 14).map (tellD xs (leadX xs))) (m := (fam xs 4 14).map (readD xs)) (k := (fam xs 4 14).map rowD) (by kernel_rfl) rfl rfl rfl (e_sub (e_name (by kernel_rfl) ((ag _ (by decide +kernel)).trans rfl)) (e_const rfl) rfl) (e_sub (e_name (by kernel_rfl) ((ag _ (by decide +kernel)).trans rfl)) (e_const rfl) rfl) (e_sub (e_name (by kernel_rfl) ((ag _ (by decide +kernel)).trans rfl)) (e_const rfl) rfl) ((List.length_map _).trans (List.length_map _).symm) ((List.length_map _).trans (List.length_map _).symm)
theorem law19 (BD : Bd xs B) (nx : ∀ e1, EqX X19 (E19 xs) e1 → e1 (Str.ofString "total") = some (.d (.int (dbl xs).1)) → EX ⟨c, k0 + 9, ks31⟩ (lb 20) e1 (St19 xs (dbl xs).2) z) : EX ⟨c, k0 + 9, ks31⟩ (lb 19) (E19 xs) (St19 xs []) z := by
  refine dbl_outer (c := c) (k0 := k0) BD (fam xs 1 11) (0, []) (E19 xs) (fun _ h => h) (Nat.le_trans (Nat.add_le_add_left (Nat.mul_le_mul_right 6 (fam_six (s := 1) (g := 11) (by decide))) 0) (by decide)) (fun _ _ => rfl) rfl fun e1 a1 t1 fg => x_for (ss := lb 20) (?_ : SRC _ _ _ _ _ ((fam xs 1 11).map (rowT xs), St19 xs [], none)) fg (nx e1 a1 t1)
  exact zip3D_map (tellD xs (leadX xs)) (readD xs) rowD (fam xs 1 11) ▸ src_zip3 (l := (fam xs 1 11).map (tellD xs (leadX xs))) (m := (fam xs 1 11).map (readD xs)) (k := (fam xs 1 11).map rowD) (by kernel_rfl) rfl rfl rfl (e_sub (e_name (by kernel_rfl) rfl) (e_const rfl) rfl) (e_sub (e_name (by kernel_rfl) rfl) (e_const rfl) rfl) (e_sub (e_name (by kernel_rfl) rfl) (e_const rfl) rfl) ((List.length_map _).trans (List.length_map _).symm) ((List.length_map _).trans (List.length_map _).symm)
end
def B2a (g : Fr) (elt t2 i2 : Expr) (ifs2 : List Expr) (J : En → Prop) (S : Sto) (e : En) (ys : List D) : Prop := ∃ (l : List D) (J2 : En → Prop), SRC g t2 i2 e S (l, S, none) ∧ J2 e ∧ (∀ e, J2 e → J e) ∧ CM g elt t2 ifs2 J2 S l ys
section
variable {g : Fr} {elt t1 i1 t2 i2 : Expr} {f1 ifs2 : List Expr} {scope : Scope} {pos : Pos} {S : Sto} {J : En → Prop} {A : Around} {cenv : Env} {dx : Addr} {Z : List Addr}
theorem body2a (room : Room (12 + g.k) A) (hno : dx ∉ own g.ks cenv) (hdz : dx ∉ Z) (ktg : ∀ x ∈ tnames t2, place cenv x ∈ Z) : BodyOk g cenv A J S (B2a g elt t2 i2 ifs2 J S) dx Z (emit2 (.ListComp elt [⟨t1, i1, f1, 0⟩, ⟨t2, i2, ifs2, 0⟩] scope pos) i2 (.ref dx) cenv) := by
  intro e acc ys b k Q E hB hJ hl fm ha hz h
  obtain ⟨l, J2, hs, h2e, h2J, hc⟩ := hB
  unfold emit2
  have key := hs.2 cenv A b (fun it s2 => wpAny (model pw g.c.w) A (runOwn (.compStart (.ListComp elt [⟨t1, i1, f1, 0⟩, ⟨t2, i2, ifs2, 0⟩] scope pos) 1 it (.ref dx) cenv) cenv) (fun _ s' => wpAny (model pw g.c.w) A k Q E s') noE s2) ⟨room, fm⟩ fun b1 d it ta _ tb hi hzz => ?_
  · refine wpAny_bind (wpAny_mono key (fun x s1 h1 => ?_) fun _ _ x => x.elim)
    refine wpAny_bind (wpAny_standAt (wpAny_bind (wpAny_of_eq (hs.1 cenv x) ?_)))
    refine wpAny_bind (wpAny_holding (wpAny_mono h1 (fun it s2 h2 => ?_) fun _ _ x => x.elim))
    exact wpAny_bind (wpAny_mono h2 (fun _ s3 h3 => h3) fun _ _ x => x.elim)
  · refine wpAny_runOwn (hc := ?_)
    have td := ta.trans tb
    have hz1 : ∀ z ∈ dx :: Z, z ∈ b1.wl ∧ z ∉ gad b1.G := fun z m => ⟨ta.sub z (hz z m).1, ta.gnew (hz z m).2 (hz z m).1⟩
    have loop : codeAny (model pw g.c.w) A (.compLoop (.ListComp elt [⟨t1, i1, f1, 0⟩, ⟨t2, i2, ifs2, 0⟩] scope pos) 1 (.ref it.I) (.ref dx) cenv) (fun r s' => match r with | .ok _ => wpAny (model pw g.c.w) A k Q E s' | .error e => cameBackBy (model pw g.c.w) A cenv noE e s') d.s := by
      refine cloop_ok (p := i2.pos) (emit := emit1 elt dx cenv) (Z := Z) (Y := dx :: Z) (dx := dx) room rfl rfl rfl ktg (body1 room hno) tb hi hzz (fm.to td) h2e (ha.to td fun q => nomatch q) (fun z m => ⟨tb.sub z (hz1 z m).1, tb.gnew (hz1 z m).2 (hz1 z m).1, fun q => ?_, .inl m⟩) (fun z m => (hz1 z m).1) (fun z m q => b1.good.no ((fm.to ta).mem z m) (hzz z q)) hdz hc hl fun b3 e3 t3 f3 j3 a3 _ => ?_
      · rcases (hi.fpo z q).2.2.2 (tb.sub z (hz1 z m).1) with w | w
        · exact b1.good.no (hz1 z m).1 (hzz z w)
        · exact tb.gnew (hz1 z m).2 (hz1 z m).1 w
      · exact h b3 e3 ((ta.wide fun z m => (hz z m).1).trans t3) f3 (h2J e3 j3) a3
    exact start2 loop (hi.self d.s _ hi.st loop)
end
section
variable {f : Fr} {elt tgt iter t2 i2 : Expr} {ifs ifs2 : List Expr} {sc : Scope} {e : En} {S S1 : Sto} {u : Option (Nat × M)} {l acc : List D} {J : En → Prop} {md : Bool}
theorem c_twoa (ok : scOk sc [⟨tgt, iter, ifs, 0⟩, ⟨t2, i2, ifs2, 0⟩] = true) (okf : compFree sc f.ks = true) (h1 : SRC f tgt iter e S (l, S1, u)) (hJ : J (freeE sc e)) (h2 : CL ⟨f.c, f.k, ksOf sc⟩ (B2a ⟨f.c, f.k, ksOf sc⟩ elt t2 i2 ifs2 J (lkS u S1)) tgt ifs J (lkS u S1) l acc) (hl : acc.length ≤ sizeLine) : CP f elt [⟨tgt, iter, ifs, 0⟩, ⟨t2, i2, ifs2, 0⟩] sc e S (cfin md acc S1) :=
  comp_ok (emit := fun pos dx cenv => emit2 (.ListComp elt [⟨tgt, iter, ifs, 0⟩, ⟨t2, i2, ifs2, 0⟩] sc pos) i2 (.ref dx) cenv) ok okf h1 hJ (fun _ _ _ _ => rfl) (fun _ A cenv dx Z room hno hdz hpl => body2a (g := ⟨f.c, f.k, ksOf sc⟩) room hno hdz fun x m => hpl x ((scOk_inv ok).2.2 _ (.tail _ (.head _)) x m)) h2 hl
theorem c_map2 {x y : Str} {p p2 : Pos} {α β : Type} {L : List α} {M : List β} {g : α → D} {g2 : β → D} {h : α → β → D} (hxy : x ≠ y) (ok : scOk sc [⟨.Name x p, iter, [], 0⟩, ⟨.Name y p2, i2, [], 0⟩] = true) (okf : compFree sc f.ks = true) (kx : isVa (ksOf sc) x = true) (ky : isVa (ksOf sc) y = true) (h1 : SRC f (.Name x p) iter e S (L.map g, S, none)) (h2 : ∀ e1, EqX [x, y] (freeE sc e) e1 → SRC ⟨f.c, f.k, ksOf sc⟩ (.Name y p2) i2 e1 S (M.map g2, S, none)) (hl : (L.flatMap fun a => M.map (h a)).length ≤ sizeLine) (hv : ∀ a ∈ L, ∀ b ∈ M, EV ⟨f.c, f.k, ksOf sc⟩ elt (put y (.d (g2 b)) (put x (.d (g a)) (freeE sc e))) S (.d (h a b), S)) : CP f elt [⟨.Name x p, iter, [], 0⟩, ⟨.Name y p2, i2, [], 0⟩] sc e S (cfin md (L.flatMap fun a => M.map (h a)) S) := by
  refine c_twoa (J := EqX [x, y] (freeE sc e)) ok okf h1 (fun y _ => rfl) ?_ hl
  clear h1 hl
  induction L with
  | nil => exact .nil
  | cons a L ih =>
    rw [List.flatMap_cons]
    refine .yes (ys := M.map (h a)) (fun e1 j => ?_) (ih fun a m => hv a (.tail _ m))
    have j1 : EqX [x, y] (freeE sc e) (put x (.d (g a)) e1) := j.put (.head _)
    refine ⟨_, .name kx, j1, .nil, M.map g2, fun e2 => EqX [x, y] (freeE sc e) e2 ∧ e2 x = some (.d (g a)), h2 _ j1, ⟨j1, put_same⟩, fun _ q => q.1, ?_⟩
    replace hv := hv a (.head _)
    clear h2 ih
    induction M with
    | nil => exact .nil
    | cons b M ih =>
      refine .yes (ys := [h a b]) (fun e2 ⟨j2, hx⟩ => ?_) (ih fun b m => hv b (.tail _ m))
      refine ⟨put y (.d (g2 b)) e2, .name ky, ⟨j2.put (.tail _ (.head _)), ?_⟩, .nil, _, rfl, ?_⟩
      · by_cases q : x = y
        · exact absurd q hxy
        · exact (put_ne (beq_eq_false_iff_ne.mpr q) rfl).trans hx
      · have q : put y (.d (g2 b)) (put x (.d (g a)) e2) = put y (.d (g2 b)) (put x (.d (g a)) (freeE sc e)) := putN_eqX (xs := [x, y]) (vs := [.d (g a), .d (g2 b)]) j2 rfl
        rw [put_id hx] at q
        rw [q]
        exact hv b (.head _)
end
def pairD (xs : List Int) (p : Pr) : D := .tuple [tellD xs 0 p.1, tellD xs 0 p.2]
def acrD (xs : List Int) (p : Pr) : D := .tuple [.list (psD (pcX xs p.1)), .list (psD (pcX xs p.2))]
def acrL (xs : List Int) : List Pr := prs (fam xs 1 14) (fam xs 4 11)
theorem acr_flat (xs : List Int) : ((fam xs 1 14).flatMap fun a => (fam xs 4 11).map fun b => acrD xs (a, b)) = (acrL xs).map (acrD xs) := by
  unfold acrL prs
  rw [List.map_flatMap]
  exact congrArg (fun g => List.flatMap g _) (funext fun a => by rw [List.map_map]; rfl)
theorem acrX_is (xs : List Int) : acrL xs = (prs (famO (1, 14)) (famO (4, 11))).filter (open2 (clX xs)) := by
  unfold acrL
  rw [fam_is, fam_is, prs_filter]
theorem acr_le (xs : List Int) : (acrL xs).length ≤ 16 := acrX_is xs ▸ Nat.le_trans (List.length_filter_le _ _) (show (prs (famO (1, 14)) (famO (4, 11))).length ≤ 16 by decide +kernel)
structure Kn (xs : List Int) (e : En) : Prop where
  walks : e (Str.ofString "walks") = some (.d (.list (endsN.map (walkL xs))))
  plus : e (Str.ofString "plus") = some (.d (.int (plusX xs)))
  minus : e (Str.ofString "minus") = some (.d (.int (minusX xs)))
  lead : e (Str.ofString "lead") = some (.d (.int (leadX xs)))
  signs : e (Str.ofString "signs") = some (.d (.list (signsD (snX xs))))
  kinds : e (Str.ofString "kinds") = some (.d (.list (intsL fun c => (kdX xs c : Int))))
  page : e (Str.ofString "page") = some (.ref 0)
  ends : e (Str.ofString "ends") = some (.d endsD)
  swapped : e (Str.ofString "swapped") = some (.ref 2)
  total : e (Str.ofString "total") = some (.d (.int (dbl xs).1))
theorem kn_19 {xs : List Int} {e : En} (h : EqX X19 (E19 xs) e) (ht : e (Str.ofString "total") = some (.d (.int (dbl xs).1))) : Kn xs e :=
  ⟨(h _ (by decide +kernel)).trans rfl, (h _ (by decide +kernel)).trans rfl, (h _ (by decide +kernel)).trans rfl, (h _ (by decide +kernel)).trans rfl, (h _ (by decide +kernel)).trans rfl, (h _ (by decide +kernel)).trans rfl, (h _ (by decide +kernel)).trans rfl, (h _ (by decide +kernel)).trans rfl, (h _ (by decide +kernel)).trans rfl, ht⟩
def Sz (xs : List Int) : Sto := St19 xs (dbl xs).2
def E21 (xs : List Int) (e : En) : En := put (Str.ofString "across") (.d (.list ((acrL xs).map (acrD xs)))) e
section
variable {c : Cx} {k0 : Nat} {xs : List Int} {z : Fl × Sto} {e : En}
theorem fn_pcs {S : Sto} {s : Nat} {r : List Nat} (R : RowOk s r) : FN c (k0 + 1) (Str.ofString "_law_pieces") [.d (rowD r), .d (.list (signsD (snX xs)))] S (.d (.list (psD (pcX xs r))), S) :=
  fn_pieces (Nat.le_trans R.len (by decide)) (chain_lt R.ch) (by obtain ⟨q, hq⟩ := R.hd; rw [hq]; exact Nat.succ_le_succ (Nat.zero_le _))
theorem law20 (K : Kn xs e) (nx : EX ⟨c, k0 + 1, ks31⟩ (lb 21) (E21 xs e) (Sz xs) z) : EX ⟨c, k0 + 1, ks31⟩ (lb 20) e (Sz xs) z := by
  refine x_asgC (ss := lb 21) (v := .d (.list ((fam xs 1 14).flatMap fun a => (fam xs 4 11).map fun b => acrD xs (a, b)))) (S1 := Sz xs) (by kernel_rfl) (c_map2 (md := false) (x := (Str.ofString "row")) (y := (Str.ofString "more")) (L := fam xs 1 14) (M := fam xs 4 11) (g := rowD) (g2 := rowD) (h := fun a b => acrD xs (a, b)) (by decide +kernel) (by kernel_rfl) (by kernel_rfl) (by kernel_rfl) (by kernel_rfl) (src_plain (fun _ _ => rfl) (e_sub (e_name (by kernel_rfl) K.walks) (e_const rfl) rfl) (.lst _)) (fun e1 h1 => src_plain (fun _ _ => rfl) (e_sub (e_name (by kernel_rfl) ((h1 _ (by decide +kernel)).trans K.walks)) (e_const rfl) rfl) (.lst _)) (by rw [acr_flat, List.length_map]; exact le_line (Nat.le_trans (acr_le xs) (by decide))) fun a ha b hb => e_tuple (vs := [.d (.list (psD (pcX xs a))), .d (.list (psD (pcX xs b)))]) (v_cons rfl (e_fn (by kernel_rfl) (v_cons rfl (e_name (by kernel_rfl) rfl) (v_cons rfl (e_name (by kernel_rfl) K.signs) v_nil)) (fn_pcs (fam_ok (p := (1, 14)) (by decide) a ha))) (v_cons rfl (e_fn (by kernel_rfl) (v_cons rfl (e_name (by kernel_rfl) rfl) (v_cons rfl (e_name (by kernel_rfl) K.signs) v_nil)) (fn_pcs (fam_ok (p := (4, 11)) (by decide) b hb))) v_nil)) rfl (Nat.le_of_ble_eq_true rfl)) ?_
  rw [acr_flat]
  exact nx
end
def emD : D := .tuple [.str emptyS, .str emptyS]
def hdL (sn : Nat → Nat) : List D := (List.range 16).map fun c => pD (emptyS, sg (sn c))
theorem cut1 (sn : Nat → Nat) : ∀ j : Nat, j < 4 → sliceL (psD (pagePs sn)) (some (19 + (j : Int))) none none = [] ∧ (psD (pagePs sn)).take (stOf (some (19 + (j : Int))) (psD (pagePs sn)).length) = psD (pagePs sn)
  | 0, _ => ⟨by kernel_rfl, by kernel_rfl⟩
  | 1, _ => ⟨by kernel_rfl, by kernel_rfl⟩
  | 2, _ => ⟨by kernel_rfl, by kernel_rfl⟩
  | 3, _ => ⟨by kernel_rfl, by kernel_rfl⟩
theorem cut2 (sn : Nat → Nat) : sliceL (psD (pagePs sn)) (some (-2)) none none = [emD, emD] ∧ (psD (pagePs sn)).take (stOf (some (-2)) (psD (pagePs sn)).length) = hdL sn := ⟨by kernel_rfl, by kernel_rfl⟩
theorem cut3 (sn : Nat → Nat) : sliceL (hdL sn) (some 0) none none = hdL sn ∧ (hdL sn).take (stOf (some 0) (hdL sn).length) = [] := ⟨by kernel_rfl, by kernel_rfl⟩
def StP (xs : List Int) (l : List D) (k : Int) : Sto := [.acc l k, .acc (psD ps3) (leadX xs), .list (dbl xs).2]
def E22 (xs : List Int) (e : En) : En := putN [(Str.ofString "beyond"), (Str.ofString "empty"), (Str.ofString "held")] [.d (.list []), .d (.list [emD, emD]), .d (.list (hdL (snX xs)))] e
theorem emD_ok {n : Nat} : OkD (n + 1) emD := .tuple (allC (.str em_ok) (allC (.str em_ok) allN))
theorem hdL_ok (xs : List Int) : OkD 64 (.list (hdL (snX xs))) := .list fun d hd => by
  obtain ⟨c, hc, rfl⟩ := List.mem_map.mp hd
  exact pD_ok ⟨em_ok, sg_ok (snX_lt c (List.mem_range.mp hc))⟩
section
variable {c : Cx} {k0 : Nat} {xs : List Int} {z : Fl × Sto} {e : En} {S : Sto}
theorem law21 {out : D} (ok : OkD 64 out) (F1 : FN c (k0 + 1) (Str.ofString "sorted") [.ref 2] (Sz xs) (.d out, Sz xs)) (F2 : FN c (k0 + 1) (Str.ofString "sorted") [.d (.list ((acrL xs).map (pairD xs)))] (Sz xs) (.d out, Sz xs)) (K : Kn xs e) (nx : EX ⟨c, k0 + 1, ks31⟩ (lb 22) (E21 xs e) (Sz xs) z) : EX ⟨c, k0 + 1, ks31⟩ (lb 21) (E21 xs e) (Sz xs) z := by
  have mem : ∀ p ∈ acrL xs, p.1 ∈ fam xs 1 14 ∧ p.2 ∈ fam xs 4 11 := fun p hp => by
    obtain ⟨x, hx, h⟩ := List.mem_flatMap.mp hp
    obtain ⟨y, hy, rfl⟩ := List.mem_map.mp h
    exact ⟨hx, hy⟩
  refine x_skip (ss := lb 22) (S1 := Sz xs) (t_cmp (a := .d out) (b := .d out) (S1 := Sz xs) (e_fn (by kernel_rfl) (v_cons rfl (e_name (by kernel_rfl) K.swapped) v_nil) F1) (e_fn (by kernel_rfl) (v_cons (S1 := Sz xs) rfl (e_comp (c_map (md := false) (xs := [(Str.ofString "row"), (Str.ofString "more")]) (L := acrL xs) (d := acrD xs) (h := pairD xs) (v := fun p => [.d (.list (psD (pcX xs p.1))), .d (.list (psD (pcX xs p.2)))]) (by kernel_rfl) (by kernel_rfl) (src_plain (fun _ _ => rfl) (e_name (by kernel_rfl) rfl) (.lst _)) (fun p _ => .tup (.cons (.cons .nil)) (by kernel_rfl) rfl) (le_line (Nat.le_trans (acr_le xs) (by decide))) fun p hp => ?_)) v_nil) F2) rfl (ne_self ok)) nx
  have fa := pcs_few (sn := snX xs) (fam_ok (p := (1, 14)) (by decide) _ (mem p hp).1).len
  have fb := pcs_few (sn := snX xs) (fam_ok (p := (4, 11)) (by decide) _ (mem p hp).2).len
  exact e_tuple (vs := [.d (tellD xs 0 p.1), .d (tellD xs 0 p.2)]) (v_cons rfl (e_fn (by kernel_rfl) (v_cons rfl (e_name (by kernel_rfl) rfl) (v_cons rfl (e_const rfl) v_nil)) (fn_due fa)) (v_cons rfl (e_fn (by kernel_rfl) (v_cons rfl (e_name (by kernel_rfl) rfl) (v_cons rfl (e_const rfl) v_nil)) (fn_due fb)) v_nil)) rfl (Nat.le_of_ble_eq_true rfl)
theorem law22 (K : Kn xs e) (nx : EX ⟨c, k0 + 1, ks31⟩ (lb 23) (E22 xs (E21 xs e)) (StP xs [] 1) z) : EX ⟨c, k0 + 1, ks31⟩ (lb 22) (E21 xs e) (Sz xs) z := by
  have p1 : ME c (k0 + 1) (Str.ofString "pop_from") (.ref 0) [.d (.int (19 + leadX xs))] (Sz xs) (.d (.list []), Sz xs) := by
    have := me_pop_from (c := c) (k0 := k0) (i := 0) (S := Sz xs) (l := psD (pagePs (snX xs))) (k := 1) (j := 19 + (leadN xs : Int)) rfl (Nat.le_of_ble_eq_true rfl)
    rwa [(cut1 (snX xs) (leadN xs) (md_lt (by decide))).1, (cut1 (snX xs) (leadN xs) (md_lt (by decide))).2] at this
  have p2 : ME c (k0 + 1) (Str.ofString "pop_from") (.ref 0) [.d (.int (-2))] (Sz xs) (.d (.list [emD, emD]), StP xs (hdL (snX xs)) 1) := by
    have := me_pop_from (c := c) (k0 := k0) (i := 0) (S := Sz xs) (l := psD (pagePs (snX xs))) (k := 1) (j := -2) rfl (Nat.le_of_ble_eq_true rfl)
    rwa [(cut2 (snX xs)).1, (cut2 (snX xs)).2] at this
  have p3 : ME c (k0 + 1) (Str.ofString "pop_from") (.ref 0) [] (StP xs (hdL (snX xs)) 1) (.d (.list (hdL (snX xs))), StP xs [] 1) := by
    have := me_pop_from0 (c := c) (k0 := k0) (i := 0) (S := StP xs (hdL (snX xs)) 1) (l := hdL (snX xs)) (k := 1) rfl (Nat.le_of_ble_eq_true rfl)
    rwa [(cut3 (snX xs)).1, (cut3 (snX xs)).2] at this
  exact x_tup (ss := lb 23) (vs := [.d (.list []), .d (.list [emD, emD]), .d (.list (hdL (snX xs)))]) (S1 := StP xs [] 1) (.cons (.cons (.cons .nil))) (by kernel_rfl) (v_cons rfl (e_me rfl (Nat.le_of_ble_eq_true rfl) rfl (e_name (by kernel_rfl) K.page) (v_cons rfl (e_bin (md := false) (e_const rfl) (e_name (by kernel_rfl) K.lead) rfl) v_nil) (fun _ h => h) p1) (v_cons rfl (e_me rfl (Nat.le_of_ble_eq_true rfl) rfl (e_name (by kernel_rfl) K.page) (v_cons rfl (e_un (e_const rfl) rfl) v_nil) (fun _ h => h) p2) (v_cons rfl (e_me rfl (Nat.le_of_ble_eq_true rfl) rfl (e_name (by kernel_rfl) K.page) v_nil (fun _ h => h) p3) v_nil))) (by kernel_rfl) rfl nx
theorem law23 (K : Kn xs e) (nx : EX ⟨c, k0, ks31⟩ (lb 24) (E22 xs (E21 xs e)) S z) : EX ⟨c, k0, ks31⟩ (lb 23) (E22 xs (E21 xs e)) S z := by
  have oe : OkD 64 (.list [emD, emD]) := .mono (n := 2) (.list (allC emD_ok (allC emD_ok allN))) (by decide)
  have on : OkD 64 (.list []) := .mono (n := 1) (.list allN) (by decide)
  have le : FN c k0 (Str.ofString "len") [.d (.list [emD, emD])] S (.d (.int 2), S) := fn_len_list (Nat.le_of_ble_eq_true rfl)
  have lh : FN c k0 (Str.ofString "len") [.d (.list (hdL (snX xs)))] S (.d (.int 16), S) := fn_len_list (l := hdL (snX xs)) (Nat.le_of_ble_eq_true rfl)
  exact x_skip (ss := lb 24) (S1 := S) (t_bool (a_cons (w := false) (S1 := S) (t_cmp (e_name (by kernel_rfl) rfl) (e_list v_nil rfl (Nat.zero_le _)) rfl (ne_self on)) (a_cons (w := false) (S1 := S) (t_cmp (e_name (by kernel_rfl) rfl) (e_list (v_cons rfl (e_tuple (v_cons rfl (e_const rfl) (v_cons rfl (e_const rfl) v_nil)) rfl (Nat.le_of_ble_eq_true rfl)) (v_cons rfl (e_tuple (v_cons rfl (e_const rfl) (v_cons rfl (e_const rfl) v_nil)) rfl (Nat.le_of_ble_eq_true rfl)) v_nil)) rfl (Nat.le_of_ble_eq_true rfl)) rfl (ne_self oe)) (a_cons (w := false) (S1 := S) (t_cmp (a := .d (.list (hdL (snX xs)))) (b := .d (.list (hdL (snX xs)))) (e_name (by kernel_rfl) rfl) (e_comp (c_map (md := false) (xs := [(Str.ofString "sign")]) (L := List.range 16) (d := fun i => .str (sg (snX xs i))) (h := fun i => pD (emptyS, sg (snX xs i))) (v := fun i => [.d (.str (sg (snX xs i)))]) (by kernel_rfl) (by kernel_rfl) (src_plain (fun _ _ => rfl) (e_name (by kernel_rfl) K.signs) (.lst _)) (fun p _ => .name (by kernel_rfl)) (Nat.le_of_ble_eq_true rfl) fun i hi => e_tuple (v_cons rfl (e_const rfl) (v_cons rfl (e_name (by kernel_rfl) rfl) v_nil)) rfl (Nat.le_of_ble_eq_true rfl))) rfl (ne_self (hdL_ok xs))) (a_cons (w := false) (S1 := S) (t_cmp (a := .d (.int 18)) (b := .d (.int 18)) (e_bin (md := false) (e_fn (by kernel_rfl) (v_cons rfl (e_name (by kernel_rfl) rfl) v_nil) le) (e_fn (by kernel_rfl) (v_cons rfl (e_name (by kernel_rfl) rfl) v_nil) lh) rfl) (e_const rfl) rfl (ne_self (.int _))) a_nil))))) nx
theorem law24 (hp : e (Str.ofString "page") = some (.ref 0)) (nx : EX ⟨c, k0 + 2, ks31⟩ (lb 25) e (StP xs [] 0) z) : EX ⟨c, k0 + 2, ks31⟩ (lb 24) e (StP xs [] 1) z := by
  have ok : OkD 64 (.tuple [.int 1, .int 0, .none, .int 3, .none, .int 0]) := .mono (n := 1) (.tuple (allC (.int _) (allC (.int _) (allC .none (allC (.int _) (allC .none (allC (.int _) allN))))))) (by decide)
  have f1 : Few [(spS, xS)] := ⟨by decide, allC ⟨by decide, by decide⟩ allN⟩
  have l1 : FN c (k0 + 2) (Str.ofString "len") [.ref 0] (StP xs [] 1) (.d (.int 1), StP xs [] 1) := fn_len_acc (i := 0) (ps := []) (k := 1) rfl few0 ⟨by decide, by decide⟩
  have l2 : FN c (k0 + 2) (Str.ofString "len") [.ref 0] (StP xs (psD [(spS, xS)]) 1) (.d (.int 3), StP xs (psD [(spS, xS)]) 1) := fn_len_acc (i := 0) (ps := [(spS, xS)]) (k := 1) rfl f1 ⟨by decide, by decide⟩
  have l3 : FN c (k0 + 2) (Str.ofString "len") [.ref 0] (StP xs [] 0) (.d (.int 0), StP xs [] 0) := fn_len_acc (i := 0) (ps := []) (k := 0) rfl few0 ⟨by decide, by decide⟩
  exact x_skip (ss := lb 25) (S1 := StP xs [] 0) (t_cmp (a := .d (.tuple [.int 1, .int 0, .none, .int 3, .none, .int 0])) (b := .d (.tuple [.int 1, .int 0, .none, .int 3, .none, .int 0])) (S1 := StP xs [] 0) (e_tuple (v_cons rfl (e_fn (by kernel_rfl) (v_cons rfl (e_name (by kernel_rfl) hp) v_nil) l1) (v_cons rfl (e_me rfl (Nat.le_of_ble_eq_true rfl) rfl (e_name (by kernel_rfl) hp) v_nil (fun _ h => h) (me_part_count (i := 0) (l := []) (k := 1) rfl)) (v_cons (S1 := StP xs (psD [(spS, xS)]) 1) rfl (e_me rfl (Nat.le_of_ble_eq_true rfl) rfl (e_name (by kernel_rfl) hp) (v_cons rfl (e_const rfl) (v_cons rfl (e_const rfl) v_nil)) (fun _ h => h) (me_push (i := 0) (l := []) (k := 1) rfl (Nat.le_of_ble_eq_true rfl))) (v_cons rfl (e_fn (by kernel_rfl) (v_cons rfl (e_name (by kernel_rfl) hp) v_nil) l2) (v_cons (S1 := StP xs [] 0) rfl (e_me rfl (Nat.le_of_ble_eq_true rfl) rfl (e_name (by kernel_rfl) hp) v_nil (fun _ h => h) (me_reset0 (i := 0) (l := psD [(spS, xS)]) (k := 1) rfl (Nat.le_of_ble_eq_true rfl))) (v_cons rfl (e_fn (by kernel_rfl) (v_cons rfl (e_name (by kernel_rfl) hp) v_nil) l3) v_nil)))))) rfl (Nat.le_of_ble_eq_true rfl)) (e_tuple (v_cons rfl (e_const rfl) (v_cons rfl (e_const rfl) (v_cons rfl (e_const rfl) (v_cons rfl (e_const rfl) (v_cons rfl (e_const rfl) (v_cons rfl (e_const rfl) v_nil)))))) rfl (Nat.le_of_ble_eq_true rfl)) rfl (ne_self ok)) nx
end
def w0 (xs : List Int) (c : Nat) : Int := bif decide (kdX xs c = 0) then 0 else wX xs c
theorem kd_lt (xs : List Int) (c : Nat) : kdX xs c < 6 := md_lt (by decide)
theorem six_at {S : Sto} {p m : Int} : ∀ k : Nat, k < 6 → getV (.d (.list [.int 0, .int p, .int m, .int 1, .int 1, .int 1])) (.d (.int (k : Int))) S = some (.d (.int (bif decide (k = 0) then 0 else wv p m k)))
  | 0, _ => rfl
  | 1, _ => rfl
  | 2, _ => rfl
  | 3, _ => rfl
  | 4, _ => rfl
  | 5, _ => rfl
  | n + 6, h => absurd h (Nat.not_lt.mpr (Nat.le_add_left 6 n))
theorem w0_bits {xs : List Int} {B : Nat} (BD : Bd xs B) (c : Nat) : nb (w0 xs c) ≤ B := by
  unfold w0
  cases decide (kdX xs c = 0)
  · exact wX_bits BD c
  · exact Nat.zero_le _
def dpD (xs : List Int) (p : Nat × Nat) : D := .int (dp (w0 xs) p.1 p.2)
def E25 (xs : List Int) (e : En) : En := put (Str.ofString "worths") (.d (.list (intsL (w0 xs)))) e
def E26 (xs : List Int) (e : En) : En := putN [(Str.ofString "one"), (Str.ofString "two"), (Str.ofString "three"), (Str.ofString "four")] [.d (dpD xs (1, 11)), .d (dpD xs (4, 14)), .d (dpD xs (1, 14)), .d (dpD xs (4, 11))] (E25 xs e)
theorem dp_small {xs : List Int} {B : Nat} (BD : Bd xs B) {s g : Nat} : nb (dp (w0 xs) s g) ≤ 32000016 :=
  Nat.le_trans (dp_bits (w0_bits BD) 16 g) (Nat.le_trans (Nat.mul_le_mul_left 16 (Nat.succ_le_succ BD.top)) (by decide))
section
variable {c : Cx} {k0 B : Nat} {xs : List Int} {z : Fl × Sto} {e : En} {S : Sto}
theorem law25 (hp : e (Str.ofString "plus") = some (.d (.int (plusX xs)))) (hm : e (Str.ofString "minus") = some (.d (.int (minusX xs)))) (hk : e (Str.ofString "kinds") = some (.d (.list (intsL fun c => (kdX xs c : Int))))) (nx : EX ⟨c, k0, ks31⟩ (lb 26) (E25 xs e) S z) : EX ⟨c, k0, ks31⟩ (lb 25) e S z :=
  x_asgC (ss := lb 26) (by kernel_rfl) (c_map (md := false) (xs := [(Str.ofString "kind")]) (L := List.range 16) (d := fun i => .int (kdX xs i : Int)) (h := fun i => .int (w0 xs i)) (v := fun i => [.d (.int (kdX xs i : Int))]) (by kernel_rfl) (by kernel_rfl) (src_plain (fun _ _ => rfl) (e_name (by kernel_rfl) hk) (.lst _)) (fun p _ => .name (by kernel_rfl)) (Nat.le_of_ble_eq_true rfl) fun i hi => e_sub (e_list (v_cons rfl (e_const rfl) (v_cons rfl (e_name (by kernel_rfl) hp) (v_cons rfl (e_name (by kernel_rfl) hm) (v_cons rfl (e_const rfl) (v_cons rfl (e_const rfl) (v_cons rfl (e_const rfl) v_nil)))))) rfl (Nat.le_of_ble_eq_true rfl)) (e_name (by kernel_rfl) rfl) (six_at _ (kd_lt xs i))) nx
theorem law26 (BD : Bd xs B) (he : e (Str.ofString "ends") = some (.d endsD)) (nx : EX ⟨c, k0 + 1, ks31⟩ (lb 27) (E26 xs e) S z) : EX ⟨c, k0 + 1, ks31⟩ (lb 26) (E25 xs e) S z :=
  x_unp (ss := lb 27) (l := endsN.map (dpD xs)) (S1 := S) (fun _ => ⟨rfl, rfl⟩) (.cons (.cons (.cons (.cons .nil)))) (by kernel_rfl) (e_comp (c_map (md := false) (xs := [(Str.ofString "start"), (Str.ofString "goal")]) (L := endsN) (d := fun p => .tuple [.int (p.1 : Int), .int (p.2 : Int)]) (h := dpD xs) (v := fun p => [.d (.int (p.1 : Int)), .d (.int (p.2 : Int))]) (by kernel_rfl) (by kernel_rfl) (src_plain (fun _ _ => rfl) (e_name (by kernel_rfl) he) (.lst _)) (fun p _ => .tup (.cons (.cons .nil)) (by kernel_rfl) rfl) (Nat.le_of_ble_eq_true rfl) fun p hp => e_fn (by kernel_rfl) (v_cons rfl (e_name (by kernel_rfl) rfl) (v_cons rfl (e_name (by kernel_rfl) rfl) (v_cons rfl (e_name (by kernel_rfl) rfl) v_nil))) (fn_worth BD.top (w0_bits BD) (ends_ok p hp).2.1))) rfl nx
theorem law27 (BD : Bd xs B) (ht : e (Str.ofString "total") = some (.d (.int (dbl xs).1))) (tot : (dbl xs).1 = dp (w0 xs) 1 11 * dp (w0 xs) 4 14 - dp (w0 xs) 1 14 * dp (w0 xs) 4 11) : EX ⟨c, k0, ks31⟩ (lb 27) (E26 xs e) S (.ret (.d (.bool true)), S) := by
  have m : ∀ {s g s' g' : Nat}, IntMulOk (dp (w0 xs) s g) (dp (w0 xs) s' g') := mul_small (Nat.le_trans (Nat.add_le_add (dp_small BD) (dp_small BD)) (by decide))
  refine x_return (e_cmp (w := true) (e_name (by kernel_rfl) ht) (e_bin (md := false) (e_mul (e_name (by kernel_rfl) rfl) (e_name (by kernel_rfl) rfl) m) (e_mul (e_name (by kernel_rfl) rfl) (e_name (by kernel_rfl) rfl) m) rfl) rfl ?_)
  rw [tot]
  exact eq_self (.int _)
end
theorem not_pos {α : Type} {q : α → Bool} {a : α} {l : List α} (h : q a = false) : (a :: l).filter (fun a => !q a) = a :: l.filter fun a => !q a := List.filter_cons_of_pos ((Bool.not_eq_true' _).mpr h)
theorem not_neg {α : Type} {q : α → Bool} {a : α} {l : List α} (h : q a = true) : (a :: l).filter (fun a => !q a) = l.filter fun a => !q a := List.filter_cons_of_neg (p := fun a => !q a) fun k => Bool.eq_false_iff.mp ((Bool.not_eq_true' _).mp k) h
section
variable {α : Type} {g h : α → Int}
theorem su_nil : sumI (([] : List α).map g) = 0 := rfl
theorem su_cons {a : α} {l : List α} : sumI ((a :: l).map g) = g a + sumI (l.map g) := rfl
theorem su_app {a b : List α} : sumI ((a ++ b).map g) = sumI (a.map g) + sumI (b.map g) := by
  induction a with
  | nil => rw [List.nil_append, su_nil, Int.zero_add]
  | cons x a ih => rw [List.cons_append, su_cons, su_cons, ih, Int.add_assoc]
theorem su_perm {a b : List α} (p : a.Perm b) : sumI (a.map g) = sumI (b.map g) := by
  induction p with
  | nil => rfl
  | cons x _ ih => rw [su_cons, su_cons, ih]
  | swap x y l => rw [su_cons, su_cons, su_cons, su_cons, ← Int.add_assoc, ← Int.add_assoc, Int.add_comm (g y)]
  | trans _ _ h1 h2 => exact h1.trans h2
theorem su_split (q : α → Bool) (l : List α) : sumI (l.map g) = sumI ((l.filter q).map g) + sumI ((l.filter fun a => !q a).map g) := by
  induction l with
  | nil => rfl
  | cons a l ih =>
    cases hq : q a with
    | true => rw [List.filter_cons_of_pos hq, not_neg hq, su_cons, su_cons, ih, Int.add_assoc]
    | false => rw [List.filter_cons_of_neg (Bool.eq_false_iff.mp hq), not_pos hq, su_cons, su_cons, ih, ← Int.add_assoc, ← Int.add_assoc, Int.add_comm (g a)]
theorem su_congr {l : List α} (k : ∀ a ∈ l, g a = h a) : sumI (l.map g) = sumI (l.map h) := by rw [List.map_congr_left k]
theorem su_zero {l : List α} (k : ∀ a ∈ l, g a = 0) : sumI (l.map g) = 0 := by
  induction l with
  | nil => rfl
  | cons a l ih => rw [su_cons, k a (.head _), ih fun b hb => k b (.tail _ hb)]; rfl
theorem su_mul (c : Int) (l : List α) : c * sumI (l.map g) = sumI (l.map fun a => c * g a) := by
  induction l with
  | nil => exact Int.mul_zero c
  | cons a l ih => rw [su_cons, su_cons, Int.mul_add, ih]
end
theorem su_prs (f : List Nat → Int) (a b : List (List Nat)) : sumI (a.map f) * sumI (b.map f) = sumI ((prs a b).map fun p => f p.1 * f p.2) := by
  induction a with
  | nil => exact Int.zero_mul _
  | cons x a ih =>
    rw [su_cons, Int.add_mul, ih, show prs (x :: a) b = (b.map fun y => (x, y)) ++ prs a b from rfl, su_app, su_mul, List.map_map]
    rfl
theorem wf_mul (w : Nat → Int) : ∀ (l : List Nat) (x : Int), worthF w l x = x * wrow w l
  | [], x => (Int.mul_one x).symm
  | c :: l, x => by
    show worthF w l (x * w c) = x * worthF w l (1 * w c)
    rw [wf_mul w l, wf_mul w l (1 * w c), Int.one_mul, Int.mul_assoc]
theorem wr_cons (w : Nat → Int) (c : Nat) (l : List Nat) : wrow w (c :: l) = w c * wrow w l := by
  show worthF w l (1 * w c) = _
  rw [wf_mul, Int.one_mul]
theorem wr_app (w : Nat → Int) (a b : List Nat) : wrow w (a ++ b) = wrow w a * wrow w b := by
  induction a with
  | nil => exact (Int.one_mul _).symm
  | cons c a ih => rw [List.cons_append, wr_cons, wr_cons, ih, Int.mul_assoc]
theorem wr_perm (w : Nat → Int) {a b : List Nat} (p : a.Perm b) : wrow w a = wrow w b := by
  induction p with
  | nil => rfl
  | cons x _ ih => rw [wr_cons, wr_cons, ih]
  | swap x y l => rw [wr_cons, wr_cons, wr_cons, wr_cons, ← Int.mul_assoc, ← Int.mul_assoc, Int.mul_comm (w x)]
  | trans _ _ h1 h2 => exact h1.trans h2
theorem wr_zero (w : Nat → Int) {c : Nat} (h : w c = 0) : ∀ {l : List Nat}, c ∈ l → wrow w l = 0
  | x :: l, hm => by
    rw [wr_cons]
    rcases List.mem_cons.mp hm with rfl | hm
    · rw [h, Int.zero_mul]
    · rw [wr_zero w h hm, Int.mul_zero]
theorem wr_congr {w v : Nat → Int} : ∀ {l : List Nat}, (∀ c ∈ l, w c = v c) → wrow w l = wrow v l
  | [], _ => rfl
  | x :: l, h => by rw [wr_cons, wr_cons, h x (.head _), wr_congr fun c hc => h c (.tail _ hc)]
def gp (w : Nat → Int) (p : Pr) : Int := wrow w p.1 * wrow w p.2
theorem cl_mem (xs : List Int) {c : Nat} (hc : c < 16) : (clX xs).contains c = decide (kdX xs c = 0) := by
  rw [List.contains_eq_mem]
  exact decide_eq_decide.mpr ⟨fun h => of_decide_eq_true (List.mem_filter.mp h).2, fun h => List.mem_filter.mpr ⟨List.mem_range.mpr hc, decide_eq_true h⟩⟩
theorem open_row {xs : List Int} {row : List Nat} (hr : ∀ c ∈ row, c < 16) (h : open' (clX xs) row = true) : wrow (w0 xs) row = wrow (wX xs) row := wr_congr fun c hc => by
  have := (Bool.not_eq_true' _).mp (List.all_eq_true.mp h c hc)
  rw [cl_mem xs (hr c hc)] at this
  unfold w0
  rw [this]; rfl
theorem shut_row {xs : List Int} {row : List Nat} (hr : ∀ c ∈ row, c < 16) (h : open' (clX xs) row = false) : wrow (w0 xs) row = 0 := by
  obtain ⟨c, hc, hk⟩ := List.all_eq_false.mp h
  refine wr_zero (w0 xs) (c := c) ?_ hc
  unfold w0
  rw [← cl_mem xs (hr c hc)]
  cases q : (clX xs).contains c with
  | true => rfl
  | false => exact absurd ((Bool.not_eq_true' _).mpr q) hk
theorem fold_stp (xs : List Int) : ∀ (l : List Pr) (t : Int × List D), l.foldl (stp xs) t = (t.1 + sumI ((l.filter fun p => !meets p).map (gp (wX xs))), t.2 ++ (l.filter meets).map (exP xs))
  | [], t => by
    rw [List.filter_nil, List.filter_nil, su_nil, Int.add_zero, List.map_nil, List.append_nil]; rfl
  | p :: l, t => by
    rw [List.foldl_cons, fold_stp xs l]
    unfold stp
    cases h : meets p with
    | true =>
      rw [List.filter_cons_of_pos h, not_neg h, List.map_cons]
      show (_, (t.2 ++ [exP xs p]) ++ _) = _
      rw [List.append_assoc]; rfl
    | false =>
      rw [List.filter_cons_of_neg (Bool.eq_false_iff.mp h), not_pos h, su_cons, ← Int.add_assoc]; rfl
theorem filter_swap {α : Type} (p q : α → Bool) (l : List α) : (l.filter p).filter q = (l.filter q).filter p := by
  rw [List.filter_filter, List.filter_filter]
  exact congrArg (fun r => List.filter r l) (funext fun a => Bool.and_comm _ _)
theorem prs_mem {a b : List (List Nat)} {p : Pr} (h : p ∈ prs a b) : p.1 ∈ a ∧ p.2 ∈ b := by
  obtain ⟨x, hx, h⟩ := List.mem_flatMap.mp h
  obtain ⟨y, hy, rfl⟩ := List.mem_map.mp h
  exact ⟨hx, hy⟩
theorem famO_chain {p : Nat × Nat} (hp : p ∈ endsN) {row : List Nat} (h : row ∈ famO p) : chain row ∧ ∃ r, row = p.1 :: r := wk_chain (ends_ok p hp).2.1 5 p.1 row h (ends_ok p hp).1
theorem prs_lt {p : Pr} (h : p ∈ prs (famO (1, 11)) (famO (4, 14))) : (∀ c ∈ p.1, c < 16) ∧ ∀ c ∈ p.2, c < 16 :=
  ⟨chain_lt (famO_chain (by decide) (prs_mem h).1).1, chain_lt (famO_chain (by decide) (prs_mem h).2).1⟩
def crossX (xs : List Int) : List Pr := (prs (fam xs 1 11) (fam xs 4 14)).filter meets
theorem dbl_2 (xs : List Int) : (dbl xs).2 = (crossX xs).map (exP xs) := congrArg Prod.snd (fold_stp xs _ _)
theorem total_is (xs : List Int) : (dbl xs).1 = dp (w0 xs) 1 11 * dp (w0 xs) 4 14 - dp (w0 xs) 1 14 * dp (w0 xs) 4 11 := by
  rw [dp_1_11, dp_4_14, dp_1_14, dp_4_11]
  unfold sumW
  rw [su_prs, su_prs]
  have h1 : sumI ((prs (famO (1, 14)) (famO (4, 11))).map (gp (w0 xs))) = sumI (crossO.map (gp (w0 xs))) := by
    rw [← su_perm cross_perm, List.map_map]
    refine su_congr fun p hp => ?_
    show wrow (w0 xs) (swp p).1 * wrow (w0 xs) (swp p).2 = wrow (w0 xs) p.1 * wrow (w0 xs) p.2
    rw [← wr_app, ← wr_app]
    exact wr_perm _ (cross_cells p hp)
  have h2 := su_split (g := gp (w0 xs)) meets (prs (famO (1, 11)) (famO (4, 14)))
  have h3 : (dbl xs).1 = sumI (((prs (famO (1, 11)) (famO (4, 14))).filter fun p => !meets p).map (gp (w0 xs))) := by
    unfold dbl
    rw [fold_stp, fam_is xs 1 11, fam_is xs 4 14, prs_filter, filter_swap]
    refine (Int.zero_add _).trans ?_
    rw [su_split (g := gp (w0 xs)) (open2 (clX xs)) ((prs (famO (1, 11)) (famO (4, 14))).filter fun p => !meets p)]
    have z : sumI ((((prs (famO (1, 11)) (famO (4, 14))).filter fun p => !meets p).filter fun p => !open2 (clX xs) p).map (gp (w0 xs))) = 0 := su_zero fun p hp => by
      have hp' := List.mem_filter.mp hp
      obtain ⟨l1, l2⟩ := prs_lt (List.mem_filter.mp hp'.1).1
      have ho : (open' (clX xs) p.1 && open' (clX xs) p.2) = false := (Bool.not_eq_true' _).mp hp'.2
      show wrow (w0 xs) p.1 * wrow (w0 xs) p.2 = 0
      rcases Bool.and_eq_false_iff.mp ho with ho | ho
      · rw [shut_row l1 ho, Int.zero_mul]
      · rw [shut_row l2 ho, Int.mul_zero]
    rw [z, Int.add_zero]
    refine su_congr fun p hp => ?_
    have hp' := List.mem_filter.mp hp
    obtain ⟨l1, l2⟩ := prs_lt (List.mem_filter.mp hp'.1).1
    have ho := Bool.and_eq_true_iff.mp (show (open' (clX xs) p.1 && open' (clX xs) p.2) = true from hp'.2)
    show wrow (wX xs) p.1 * wrow (wX xs) p.2 = wrow (w0 xs) p.1 * wrow (w0 xs) p.2
    rw [open_row l1 ho.1, open_row l2 ho.2]
  rw [h3]
  change _ = sumI ((prs (famO (1, 11)) (famO (4, 14))).map (gp (w0 xs))) - sumI ((prs (famO (1, 14)) (famO (4, 11))).map (gp (w0 xs)))
  rw [h1, h2]
  show _ = sumI (crossO.map (gp (w0 xs))) + _ - _
  rw [Int.add_comm, Int.add_sub_cancel]
theorem tuple_lt_eq (x y : Value) : Builtin.«tuple.__lt__» ⟨[x, y], []⟩ = (do
    if !(← isInstance y (.type "tuple")) then return ← ret .notImplemented
    let xs ← Builtin.Tuple.tupleItemsOf x
    let ys ← Builtin.Tuple.tupleItemsOf y
    for (x, y) in xs.toList.zip ys.toList do
      if !(← eqBool x y) then
        rule "tuple.compare.by-the-first-pair-that-differs"; return ← ret (← richCompare .Lt x y)
    ret (Builtin.Tuple.tupleCompareSizes .Lt xs.size ys.size)) := rfl
section
variable {c : Cx} {A : Around} {E : Value → Shared → Prop} {n : Nat} {s : Shared}
theorem tuple_lt_str {x y : Addr} {a b : Str} {ta tb : Tok} {us us' : List Value} {Q : Value → Shared → Prop} (room : Room n A) (hne : a ≠ b) (it : s.heap.IsTuple x (Value.str a ta :: us).toArray) (it' : s.heap.IsTuple y (Value.str b tb :: us').toArray)
    (h : Q (.bool (decide (a.cps.toList < b.cps.toList))) s) : wpAny (model pw c.w) A (compareOp .Lt (.ref x) (.ref y)) Q E s := by
  obtain ⟨ox, ex, hx, m, dx⟩ := it
  obtain ⟨oy, ey, hy, m', dy⟩ := it'
  have Tx : s.TypeIs (.ref x) "tuple" := ⟨ox, ex, hx⟩
  have Ty : s.TypeIs (.ref y) "tuple" := ⟨oy, ey, hy⟩
  show wpAny _ A (richCompare .Lt (.ref x) (.ref y)) Q E s
  refine wpAny_richCompare_same_room Tx Ty PySem.F.slot_tuple_lt ?_ room.line
  refine wpAny_call_entry PySem.F.slot_tuple_lt Tx PySem.F.entry_tuple_lt ?_ (PySem.F.args_tuple_lt_2 _ _)
  rw [tuple_lt_eq]
  have e1 : isSubtype (.type "tuple") (.type "tuple") = pure true := by rw [isSubtype_type]; kernel_rfl
  refine wpAny_bind (wpAny_bind (wpAny_typeOf Ty (wpAny_of_eq e1 ?_)))
  rw [if_neg (show ¬ (!true) = true from Bool.false_ne_true)]
  unfold Builtin.Tuple.tupleItemsOf
  refine wpAny_bind (wpAny_bind (wpAny_seqItems ex dx (wpAny_pure ?_)))
  refine wpAny_bind (wpAny_bind (wpAny_seqItems ey dy (wpAny_pure ?_)))
  show wpAny _ _ (forIn ((Value.str a ta, Value.str b tb) :: us.zip us') _ _ >>= _) _ _ _
  rw [List.forIn_cons]
  refine wpAny_bind (wpAny_bind (wpAny_bind (wpAny_eqBool_str ?_)))
  rw [decide_eq_false hne, if_pos (by rfl)]
  refine wpAny_bind (wpAny_rule ?_)
  refine wpAny_bind ?_
  show wpAny _ _ (compareOp .Lt (.str a ta) (.str b tb)) _ _ _
  refine PyProof.Rows.lt_str ?_
  refine wpAny_bind (wpAny_pure ?_)
  refine wpAny_pure ?_
  refine wpAny_pure ?_
  exact wpAny_pure ⟨_, rfl, (fun q => nomatch q), h⟩
end
inductive LtT : D → D → Bool → Prop
  | mk {a b : Str} {r r' : List D} : a ≠ b → LtT (.tuple (.str a :: r)) (.tuple (.str b :: r')) (decide (a.cps.toList < b.cps.toList))
inductive LtP : D → D → Bool → Prop
  | fst {a a' b b' : D} {y : Bool} : okEq a a' = true → PyData.eqv a a' = false → LtT a a' y → LtP (.tuple [a, b]) (.tuple [a', b']) y
  | snd {a a' b b' : D} {y : Bool} : okEq a a' = true → PyData.eqv a a' = true → okEq b b' = true → PyData.eqv b b' = false → LtT b b' y → LtP (.tuple [a, b]) (.tuple [a', b']) y
  | eq {a a' b b' : D} : okEq a a' = true → PyData.eqv a a' = true → okEq b b' = true → PyData.eqv b b' = true → LtP (.tuple [a, b]) (.tuple [a', b']) false
@[elab_as_elim] theorem V.tups {wl : List Addr} {h : Heap} {u : Value} {l : List D} {P : Value → Prop} (x : V wl h u (.tuple l)) (hh : ∀ a vs, h.IsTuple a vs.toArray → Vs wl h vs l → P (.ref a)) : P u := by
  obtain ⟨a, vs, rfl, _, _, it, lv⟩ := x.tup_
  exact hh a vs it lv
section
variable {c : Cx} {S : Sto} {A : Around} {E : Value → Shared → Prop} {n : Nat} {s : Shared} {wl : List Addr} {u v : Value} {a b : D} {y : Bool} {Q : Bool → Shared → Prop}
theorem ltT_ok (e : LtT a b y) (room : Room n A) (hu : V wl s.heap u a) (hv : V wl s.heap v b) (h : Q y s) : wpAny (model pw c.w) A (oneLt' false u v) Q E s := by
  cases e with
  | mk hne =>
    obtain ⟨x, vs, rfl, _, _, it, lv⟩ := hu.tup_
    obtain ⟨x', vs', rfl, _, _, it', lv'⟩ := hv.tup_
    obtain ⟨w, ws, rfl, v1, _⟩ := lv.cons_
    obtain ⟨w', ws', rfl, v1', _⟩ := lv'.cons_
    obtain ⟨t, rfl⟩ := V.str_ v1
    obtain ⟨t', rfl⟩ := V.str_ v1'
    exact kat_one _ _ (tuple_lt_str room hne it it' h)
theorem eqB_ok (k : okEq a b = true) (room : Room n A) (hn : 8 ≤ n) (hu : V wl s.heap u a) (hv : V wl s.heap v b) (h : Q (PyData.eqv a b) s) : wpAny (model pw c.w) A (eqBool u v) Q E s := by
  obtain ⟨as, ra⟩ := V.reads hu
  obtain ⟨bs, rb⟩ := V.reads hv
  obtain ⟨k1, k2⟩ := Bool.and_eq_true_iff.mp k
  exact SeqAt.eqAt_reads a b A s u v as bs ra rb (SeqAt.canLay_of_shaped k1) (SeqAt.canLay_of_shaped k2) (SeqAt.room_of_shaped k1 (by have := room.units; show A.units + 64 < 9900; omega)) pw c.w E Q h
theorem ltP_ok (e : LtP a b y) (room : Room n A) (hn : 8 ≤ n) (hu : V wl s.heap u a) (hv : V wl s.heap v b) (h : Q y s) : wpAny (model pw c.w) A (keyLt' (tuples' false) u v) Q E s := by
  have lex : ∀ {u v : Value} {a1 b1 a2 b2 : D}, V wl s.heap u (.tuple [a1, b1]) → V wl s.heap v (.tuple [a2, b2]) → okEq a1 a2 = true → (∀ p1 p2 q1 q2, V wl s.heap p1 a1 → V wl s.heap p2 b1 → V wl s.heap q1 a2 → V wl s.heap q2 b2 → KatGo pw c.w A false false Q p1 q1 [(p2, q2)] 0 (PyData.eqv a1 a2) s) → wpAny (model pw c.w) A (keyLt' (tuples' false) u v) Q E s := fun hu hv k h => by
    refine V.tups hu fun x vs it lv => V.tups hv fun x' vs' it' lv' => ?_
    obtain ⟨ox, ex, hx, m, dx⟩ := it
    obtain ⟨oy, ey, hy, m', dy⟩ := it'
    refine kat_lt ex dx ey dy ?_
    clear dx dy
    refine lv.cs fun p1 l1 v1 r1 => r1.one fun p2 v2 => lv'.cs fun q1 l2 w1 r2 => r2.one fun q2 w2 => ?_
    exact kat_cons (eqB_ok k room hn v1 w1 (h p1 p2 q1 q2 v1 v2 w1 w2))
  cases e with
  | fst k1 e1 l => exact lex hu hv k1 fun p1 p2 q1 q2 v1 v2 w1 w2 => by rw [e1]; exact kat_no (ltT_ok l room v1 w1 h)
  | snd k1 e1 k2 e2 l => exact lex hu hv k1 fun p1 p2 q1 q2 v1 v2 w1 w2 => by rw [e1]; exact kat_yes (kat_cons (eqB_ok k2 room hn v2 w2 (by rw [e2]; exact kat_no (ltT_ok l room v2 w2 h))))
  | eq k1 e1 k2 e2 => exact lex hu hv k1 fun p1 p2 q1 q2 v1 v2 w1 w2 => by rw [e1]; exact kat_yes (kat_cons (eqB_ok k2 room hn v2 w2 (by rw [e2]; exact kat_yes (kat_nil h))))
end
inductive PO {α : Type} (o : Nat → Nat → Bool → Prop) (Q : α → Prop) : KasT α → Prop
  | ret {a : α} : Q a → PO o Q (.ret a)
  | ask {i j : Nat} {k : Bool → KasT α} {b : Bool} : o i j b → PO o Q (k b) → PO o Q (.ask i j k)
theorem PO.one {α : Type} {o : Nat → Nat → Bool → Prop} {Q : α → Prop} {t : KasT α} (h : PO o Q t) : ∃ p, Q p ∧ PO o (fun q => q = p) t := by
  induction h with
  | ret h => exact ⟨_, h, .ret rfl⟩
  | ask e _ ih => exact let ⟨p, a, b⟩ := ih; ⟨p, a, .ask e b⟩
theorem PO.bind {α β : Type} {o : Nat → Nat → Bool → Prop} {Q : β → Prop} {f : α → KasT β} {t : KasT α} (h : PO o (fun a => PO o Q (f a)) t) : PO o Q (t.bind f) := by
  induction h with
  | ret h => exact h
  | ask e _ ih => exact .ask e ih
theorem PO.run {α : Type} {o : Nat → Nat → Bool → Prop} {cmp : Nat → Nat → (Bool → Shared → Prop) → Shared → Prop} {s : Shared} {Q : α → Prop} {t : KasT α} (H : ∀ i j b (C : Bool → Shared → Prop), o i j b → C b s → cmp i j C s) (h : PO o Q t) : t.kasWp cmp (fun a s' => s' = s ∧ Q a) s := by
  induction h with
  | ret h => exact ⟨rfl, h⟩
  | ask e _ ih => exact H _ _ _ _ e ih
def sortMid (h : Heap) (a : Addr) (vs : List Value) : Heap := ((h.update a (Obj.mapSeq fun _ => #[])).push (seqObj "tuple" vs.toArray 0)).push (seqObj "list" #[] 0)
section
variable {c : Cx} {A : Around} {E : Value → Shared → Prop} {s : Shared}
theorem sort_run {a : Addr} {vs : List Value} {n : Nat} {P : PySem.Fin → Shared → Prop} {p : Array Nat} (ho : s.heap.get? a = some (seqObj "list" vs.toArray n)) (h2 : 2 ≤ vs.length) (h64 : vs.length < 64)
    (hkk : ∀ Q : SortKind → Shared → Prop, Q (tuples' false) { s with heap := sortMid s.heap a vs } → wpAny (model pw c.w) A (keyKind' vs.toArray) Q E { s with heap := sortMid s.heap a vs })
    (ask : (kas_sort vs.length).kasWp (kas_ask pw c.w A (tuples' false) vs) (fun q s' => s' = { s with heap := sortMid s.heap a vs } ∧ q = p) { s with heap := sortMid s.heap a vs })
    (h : P (.done (.ret .none)) { s with heap := sortedHeap s.heap a vs (List.toArray (p.toList.map fun i => vs.getD i Value.none)) }) :
    wpAny (model pw c.w) A (Builtin.«list.sort» ⟨[.ref a], []⟩) P E s := by
  rw [list_sort_plain]
  have ha : a < s.heap.objs.size := Heap.lt_size ho
  refine wpAny_bind (listItems_at ho rfl ?_)
  refine wpAny_bind (listUpdate_at ho rfl ?_ (by rw [List.size_toArray, sizeLine_eq]; omega) (Nat.zero_le _))
  obtain ⟨e1, ho1⟩ : ∃ e1, (s.heap.update a (Obj.mapSeq fun _ => #[])).get? a = some (seqObj "list" #[] e1) := ⟨_, get?_update_seq ho (fun _ => #[])⟩
  refine wpAny_bind (seqEpoch_at ho1 rfl ?_)
  refine wpAny_bind (wpAny_newTuple ?_ (by show vs.length ≤ _; rw [sizeLine_eq]; omega))
  refine wpAny_bind (wpAny_newList ?_ (Nat.zero_le _))
  refine wpAny_holding ?_
  have ho6 : (sortMid s.heap a vs).get? a = some (seqObj "list" #[] e1) := Heap.get?_push_of_some _ (Heap.get?_push_of_some _ ho1)
  show wpAny (model pw c.w) A _ P E { s with heap := sortMid s.heap a vs }
  dsimp only
  have hn2 : ¬ vs.toArray.size < 2 := by rw [List.size_toArray]; omega
  rw [if_neg hn2, if_neg hn2]
  refine wpAny_bind (hkk _ ?_)
  refine wpAny_bind (wpAny_mono (kat_run (Q := fun st' s' => s' = { s with heap := sortMid s.heap a vs } ∧ p.size = vs.length ∧ arrOf st' = p.map (kas_item (vs.toArray.zip vs.toArray)) ∧ failedOf st' = none)
    rfl h2 h64 (fun p' st' s' a1 a2 a3 a4 => by obtain ⟨rfl, rfl⟩ := a4; exact ⟨rfl, a1, a2, a3⟩) ask) ?_ fun _ _ e => e)
  rintro ⟨⟨⟩, st'⟩ s' ⟨rfl, hp, har, hf⟩
  dsimp only
  refine wpAny_bind (seqEpoch_at ho6 rfl ?_)
  have hout : (arrOf st').map (·.2) = List.toArray (p.toList.map fun i => vs.getD i Value.none) := kat_snds rfl har
  rw [hout]
  refine wpAny_bind (listUpdate_at ho6 rfl ?_ (Nat.zero_le _) (by rw [List.size_toArray, List.length_map, Array.length_toList, hp, sizeLine_eq]; omega))
  rw [hf]
  simp only [bne_self_eq_false, Bool.false_eq_true, if_false]
  exact wpAny_pure h
theorem sort_run0 {a : Addr} {vs : List Value} {n : Nat} {P : PySem.Fin → Shared → Prop} (ho : s.heap.get? a = some (seqObj "list" vs.toArray n)) (h2 : vs.length < 2)
    (h : P (.done (.ret .none)) { s with heap := sortedHeap s.heap a vs vs.toArray }) :
    wpAny (model pw c.w) A (Builtin.«list.sort» ⟨[.ref a], []⟩) P E s := by
  rw [list_sort_plain]
  have ha : a < s.heap.objs.size := Heap.lt_size ho
  refine wpAny_bind (listItems_at ho rfl ?_)
  refine wpAny_bind (listUpdate_at ho rfl ?_ (by rw [List.size_toArray, sizeLine_eq]; omega) (Nat.zero_le _))
  obtain ⟨e1, ho1⟩ : ∃ e1, (s.heap.update a (Obj.mapSeq fun _ => #[])).get? a = some (seqObj "list" #[] e1) := ⟨_, get?_update_seq ho (fun _ => #[])⟩
  refine wpAny_bind (seqEpoch_at ho1 rfl ?_)
  refine wpAny_bind (wpAny_newTuple ?_ (by show vs.length ≤ _; rw [sizeLine_eq]; omega))
  refine wpAny_bind (wpAny_newList ?_ (Nat.zero_le _))
  refine wpAny_holding ?_
  have ho6 : (sortMid s.heap a vs).get? a = some (seqObj "list" #[] e1) := Heap.get?_push_of_some _ (Heap.get?_push_of_some _ ho1)
  show wpAny (model pw c.w) A _ P E { s with heap := sortMid s.heap a vs }
  dsimp only
  have hn2 : vs.toArray.size < 2 := by rw [List.size_toArray]; exact h2
  rw [if_pos hn2, if_pos hn2]
  refine wpAny_bind (wpAny_pure ?_)
  rw [StateT.run_pure]
  refine wpAny_bind (wpAny_pure ?_)
  dsimp only
  refine wpAny_bind (seqEpoch_at ho6 rfl ?_)
  have hout : (arrOf (SortSt.mk' general' (vs.toArray.zip vs.toArray) #[] 7 none)).map (·.2) = vs.toArray := by
    show (vs.toArray.zip vs.toArray).map (·.2) = vs.toArray
    apply Array.toList_inj.mp
    have e : (vs.zip vs).map (·.2) = vs := List.map_snd_zip (Nat.le_refl _)
    simpa using e
  rw [hout]
  refine wpAny_bind (listUpdate_at ho6 rfl ?_ (Nat.zero_le _) (by rw [List.size_toArray, sizeLine_eq]; omega))
  simp only [bne_self_eq_false, Bool.false_eq_true, if_false]
  exact wpAny_pure h
theorem sorted_run {l : Addr} {vs : List Value} {Q : Value → Shared → Prop} {out : List Value} (hl : s.heap.IsList l vs.toArray) (h64 : vs.length < 64)
    (hs : ∀ (s6 : Shared), (∃ h' tk, s6 = { s with heap := h', toks := tk } ∧ ∀ b o, s.heap.get? b = some o → h'.get? b = some o) → 2 ≤ vs.length → ∃ p : Array Nat, (∀ (A' : Around) (E' : Value → Shared → Prop), A'.units ≤ A.units + 2 → A'.depth = A.depth → A'.handled = A.handled → (∀ Q : SortKind → Shared → Prop, Q (tuples' false) s6 → wpAny (model pw c.w) A' (keyKind' vs.toArray) Q E' s6) ∧
      (kas_sort vs.length).kasWp (kas_ask pw c.w A' (tuples' false) vs) (fun q s' => s' = s6 ∧ q = p) s6) ∧ out = p.toList.map fun i => vs.getD i Value.none) (hs0 : vs.length < 2 → out = vs)
    (h : ∀ h' D, h'.IsList D out.toArray → s.heap.objs.size ≤ D → (∀ b o, s.heap.get? b = some o → h'.get? b = some o) → Q (.ref D) { s with heap := h' }) :
    wpAny (model pw c.w) A (call (.builtin "sorted") [.ref l]) Q E s := by
  refine Calls.call_function_entry kind_sorted plain_sorted entry_sorted (args_sorted1 _) ?_
  unfold Builtin.«sorted»
  refine wpAny_bind (m := checkCount "sorted" 1 1 _) (wpAny_pure ?_)
  refine wpAny_bind (collect_list hl ?_ (by rw [sizeLine_eq]; omega))
  refine wpAny_bind (wpAny_newList ?_ (by rw [sizeLine_eq]; omega))
  have hsz : ((s.heap.push (seqObj "list" #[] 0)).update s.heap.objs.size (Obj.mapSeq (· ++ vs.toArray))).objs.size = s.heap.objs.size + 1 := by
    rw [Heap.size_update, size_push']
  have hoL : (((s.heap.push (seqObj "list" #[] 0)).update s.heap.objs.size (Obj.mapSeq (· ++ vs.toArray))).push (seqObj "list" vs.toArray 0)).get? (s.heap.objs.size + 1) = some (seqObj "list" vs.toArray 0) := by
    rw [← hsz]; exact Heap.get?_push_size _ rfl
  have keep : ∀ b o, s.heap.get? b = some o → (((s.heap.push (seqObj "list" #[] 0)).update s.heap.objs.size (Obj.mapSeq (· ++ vs.toArray))).push (seqObj "list" vs.toArray 0)).get? b = some o := fun b o q => by
    have hlt : b < s.heap.objs.size := Heap.lt_size q
    rw [Heap.get?_push_ne _ _ _ (by rw [hsz]; exact Nat.ne_of_lt (Nat.lt_succ_of_lt hlt)), Heap.get?_update_ne _ _ _ _ (Nat.ne_of_lt hlt), Heap.get?_push_ne _ _ _ (Nat.ne_of_lt hlt)]
    exact q
  show wpAny _ _ _ _ _ { s with heap := ((s.heap.push (seqObj "list" #[] 0)).update s.heap.objs.size (Obj.mapSeq (· ++ vs.toArray))).push (seqObj "list" vs.toArray 0) }
  rw [hsz]
  generalize hh : (((s.heap.push (seqObj "list" #[] 0)).update s.heap.objs.size (Obj.mapSeq (· ++ vs.toArray))).push (seqObj "list" vs.toArray 0)) = h1 at *
  have hlt1 : s.heap.objs.size + 1 < h1.objs.size := Heap.lt_size hoL
  have keepM : ∀ b o, b ≠ s.heap.objs.size + 1 → h1.get? b = some o → (sortMid h1 (s.heap.objs.size + 1) vs).get? b = some o := fun b o q e => by
    refine Heap.get?_push_of_some _ (Heap.get?_push_of_some _ ?_)
    rw [Heap.get?_update_ne _ _ _ _ q]; exact e
  have fin : ∀ out' : List Value, out' = out → Q (.ref (s.heap.objs.size + 1)) { s with heap := sortedHeap h1 (s.heap.objs.size + 1) vs out'.toArray } := by
    intro out' ho'
    subst ho'
    obtain ⟨n1, e1⟩ : ∃ n1, (h1.update (s.heap.objs.size + 1) (Obj.mapSeq fun _ => (#[] : Array Value))).get? (s.heap.objs.size + 1) = some (seqObj "list" #[] n1) := ⟨_, get?_update_seq hoL fun _ => #[]⟩
    have e2 : (sortMid h1 (s.heap.objs.size + 1) vs).get? (s.heap.objs.size + 1) = some (seqObj "list" #[] n1) := Heap.get?_push_of_some _ (Heap.get?_push_of_some _ e1)
    obtain ⟨n2, e3⟩ : ∃ n2, (sortedHeap h1 (s.heap.objs.size + 1) vs out'.toArray).get? (s.heap.objs.size + 1) = some (seqObj "list" out'.toArray n2) := ⟨_, get?_update_seq e2 fun _ => out'.toArray⟩
    refine h _ _ ⟨_, e3, rfl, _, rfl⟩ (Nat.le_succ _) fun b o e => ?_
    have hb : b < s.heap.objs.size := Heap.lt_size e
    have hb1 : b ≠ s.heap.objs.size + 1 := Nat.ne_of_lt (Nat.lt_succ_of_lt hb)
    show (Heap.update (sortMid h1 (s.heap.objs.size + 1) vs) (s.heap.objs.size + 1) _).get? b = some o
    rw [Heap.get?_update_ne _ _ _ _ hb1]
    exact keepM b o hb1 (keep b o e)
  refine wpAny_bind (wpAny_holding (wpAny_call_entry slot_list_sort ⟨_, hoL, rfl⟩ entry_list_sort ?body (args_list_sort _)))
  case body =>
    by_cases h2 : 2 ≤ vs.length
    · have kk : ∀ b o, s.heap.get? b = some o → (sortMid h1 (s.heap.objs.size + 1) vs).get? b = some o := fun b o e =>
        keepM b o (Nat.ne_of_lt (Nat.lt_succ_of_lt (Heap.lt_size e))) (keep b o e)
      obtain ⟨p, hp, hout⟩ := hs { s with heap := sortMid h1 (s.heap.objs.size + 1) vs } ⟨_, _, rfl, kk⟩ h2
      obtain ⟨hk, hask⟩ := hp A.in1.in1 E (Nat.le_refl _) rfl rfl
      exact sort_run (s := { s with heap := h1 }) hoL h2 h64 hk hask ⟨_, rfl, wpAny_pure ⟨_, rfl, by rw [← hout]; exact fin _ rfl⟩⟩
    · exact sort_run0 (s := { s with heap := h1 }) hoL (by omega) ⟨_, rfl, wpAny_pure ⟨_, rfl, fin vs (hs0 (by omega)).symm⟩⟩
end
inductive OkS : D → Prop
  | mk {r l : List D} : OkS (.tuple (.tuple r :: l))
def LtAt (l : List D) (i j : Nat) (b : Bool) : Prop := ∃ x y, l[i]? = some x ∧ l[j]? = some y ∧ LtP x y b
def SortTo (l : List D) (Q : List D → Prop) : Prop := (l.length < 2 ∧ Q l) ∨ (2 ≤ l.length ∧ l.length < 64 ∧ (∀ x ∈ l, OkS x) ∧ PO (LtAt l) (fun p => Q (p.toList.map fun i => l.getD i .none)) (kas_sort l.length))
theorem vs_at {wl : List Addr} {h : Heap} {vs : List Value} {l : List D} (x : Vs wl h vs l) (i : Nat) : V wl h (vs.getD i Value.none) (l.getD i .none) := by
  induction x generalizing i with
  | nil => exact .none
  | cons a _ ih => cases i with
    | zero => exact a
    | succ i => exact ih i
theorem vs_pick {wl : List Addr} {h : Heap} {vs : List Value} {l : List D} (x : Vs wl h vs l) : ∀ (p : List Nat), Vs wl h (p.map fun i => vs.getD i Value.none) (p.map fun i => l.getD i .none)
  | [] => .nil
  | i :: p => .cons (vs_at x i) (vs_pick x p)
theorem vs_tups {wl : List Addr} {h : Heap} {vs : List Value} {l : List D} (x : Vs wl h vs l) (ok : ∀ d ∈ l, OkS d) : ∃ fs, KatTups h vs fs ∧ fs.length = l.length ∧ ∀ v ∈ fs, ∃ a o, v = .ref a ∧ h.get? a = some o ∧ o.cls = .type "tuple" := by
  induction x with
  | nil => exact ⟨[], trivial, rfl, fun _ m => nomatch m⟩
  | @cons v d vs l a _ ih =>
    obtain ⟨fs, h1, h2, h3⟩ := ih fun d m => ok d (.tail _ m)
    cases ok d (.head _) with
    | mk =>
      obtain ⟨x, us, rfl, _, _, it, lv⟩ := a.tup_
      obtain ⟨w, us', rfl, q1, _⟩ := lv.cons_
      obtain ⟨y, _, rfl, _, _, it', _⟩ := q1.tup_
      obtain ⟨ox, ex, hx, m, dx⟩ := it
      obtain ⟨oy, ey, hy, _⟩ := it'
      exact ⟨.ref y :: fs, KatTups.cons ex hx dx rfl h1, congrArg Nat.succ h2, fun w hw => (List.mem_cons.mp hw).elim (fun q => ⟨_, _, q, ey, hy⟩) (h3 w)⟩
section
variable {c : Cx} {S : Sto} {k0 : Nat} {l : List D} {P : List D → Prop}
theorem sorted_core {A : Around} {a : St c S} {x : Addr} {vs : List Value} {Q : Value → Shared → Prop} (room : Room 12 A) (il : a.s.heap.IsList x vs.toArray) (lv : a.vs vs l) {out : List D} (so : SortTo l fun m => m = out)
    (h : ∀ u (b : St c S), To [] a b → b.vv u (.d (.list out)) → Q u b.s) : wpAny (model pw c.w) A (call (.builtin "sorted") [.ref x]) Q noE a.s := by
  have hlen := lv.length
  have fin : ∀ (outv : List Value), a.vs outv out → ∀ h' D, h'.IsList D outv.toArray → a.s.heap.objs.size ≤ D → (∀ b o, a.s.heap.get? b = some o → h'.get? b = some o) → Q (.ref D) { a.s with heap := h' } := fun outv ov h' D il' hD hk =>
    have f := a.good.fresh hD
    h _ (a.keep h' a.s.toks hk) a.keep_to (V.lst f.2.2.2 f.2.2.1 il' ((a.keep_to (h' := h') (tk := a.s.toks) (k := hk)).vs ov))
  rcases so with ⟨h2, rfl⟩ | ⟨h2, h64, ok, po⟩
  · exact sorted_run (out := vs) il (by omega) (fun _ _ h3 => by omega) (fun _ => rfl) (fin vs lv)
  · obtain ⟨p, q, po1⟩ := po.one
    subst q
    refine sorted_run (out := p.toList.map fun i => vs.getD i Value.none) il (by omega) (fun s6 h6 h3 => ⟨p, fun A' E' hu hd hh => ?_, rfl⟩) (fun h3 => ?_) (fin _ (vs_pick lv _))
    · obtain ⟨h', tk, rfl, hk⟩ := h6
      have lv1 : Vs a.wl h' vs l := (a.keep_to (h' := h') (tk := tk) (k := hk)).vs lv
      have room' : Room 8 A' := ⟨by rw [hh]; exact room.hd, by rw [hd]; have := room.depth; omega, by have := room.units; omega⟩
      obtain ⟨fs, f1, f2, f3⟩ := vs_tups lv1 ok
      refine ⟨fun Q hq => kat_kind (T := .type "tuple") f1 (by omega) (fun v hv => ?_) rfl hq, ?_⟩
      · obtain ⟨x, o, rfl, ex, hx⟩ := f3 v hv
        intro A'' Q'' E'' s'' hk'' hq''
        exact wpAny_bind (wpAny_loadPart (hk'' _ _ ex) (by rw [hx]; exact wpAny_pure hq''))
      · rw [hlen]
        refine po1.run fun i j b C hb hC => ?_
        obtain ⟨d1, d2, e1, e2, lt⟩ := hb
        have v1 := vs_at lv1 i
        have v2 := vs_at lv1 j
        rw [List.getD_eq_getElem?_getD (l := l), e1] at v1
        rw [List.getD_eq_getElem?_getD (l := l), e2] at v2
        exact ltP_ok lt room' (Nat.le_refl _) v1 v2 hC
    · exact absurd h3 (by omega)
theorem fn_sorted {out : List D} (so : SortTo l fun m => m = out) : FN c k0 (Str.ofString "sorted") [.d (.list l)] S (.d (.list out), S) := fn_boot (by kernel_rfl) (by kernel_rfl) (op1 fun A a u Q room hu h => V.lsts hu fun x vs _ _ il lv => sorted_core (room.less (Nat.le_add_right _ _)) il lv so h)
theorem fn_sortedR {i : Nat} {out : List D} (eS : S[i]? = some (.list l)) (so : SortTo l fun m => m = out) : FN c k0 (Str.ofString "sorted") [.ref i] S (.d (.list out), S) := fn_boot (by kernel_rfl) (by kernel_rfl) (op1 fun A a u Q room hu h => by
  obtain ⟨o, eo, rfl⟩ := hu
  obtain ⟨vs, il, lv⟩ := a.good.sat.at_ eS eo
  exact sorted_core (room.less (Nat.le_add_right _ _)) il.il lv so h)
end
structure TO (R : Nat → Nat → Bool) (n : Nat) (o : Nat → Nat → Bool → Prop) : Prop where
  or : ∀ i j, i < n → j < n → o i j (R i j)
  tr : ∀ a b c, a < n → b < n → c < n → R b a = false → R c b = false → R c a = false
  tot : ∀ a b, a < n → b < n → a ≠ b → R a b = false → R b a = true
  as : ∀ a b, a < n → b < n → R a b = true → R b a = false
def Pm (p : Array Nat) (n : Nat) : Prop := p.Perm (List.range n).toArray
def G (p : Array Nat) (i : Nat) : Nat := p.getD i 0
theorem G_is (p : Array Nat) (i : Nat) : G p i = (p[i]?).getD 0 := Array.getD_eq_getD_getElem?
section
variable {R : Nat → Nat → Bool} {n : Nat} {o : Nat → Nat → Bool → Prop} {p : Array Nat}
theorem Pm.size (h : Pm p n) : p.size = n := by rw [Array.Perm.size_eq h]; simp
theorem Pm.lt (h : Pm p n) {i : Nat} (hi : i < n) : G p i < n := by
  have hi' : i < p.size := by rw [h.size]; exact hi
  rw [G_is, getElem?_pos p i hi']
  show p[i] < n
  have hm : p[i] ∈ p.toList := by simp
  have := (Array.perm_iff_toList_perm.mp h).mem_iff.mp hm
  simpa using this
theorem Pm.ne (h : Pm p n) {i j : Nat} (hi : i < n) (hj : j < n) (hij : i ≠ j) : G p i ≠ G p j := by
  have hi' : i < p.size := by rw [h.size]; exact hi
  have hj' : j < p.size := by rw [h.size]; exact hj
  rw [G_is, G_is, getElem?_pos p i hi', getElem?_pos p j hj']
  show p[i] ≠ p[j]
  have nd : p.toList.Nodup := (Array.perm_iff_toList_perm.mp h).nodup_iff.mpr (by simpa using List.nodup_range)
  intro e
  have := (List.getElem_inj (h₀ := by simpa using hi') (h₁ := by simpa using hj') nd).mp (by simpa using e)
  exact hij this
def Srt (R : Nat → Nat → Bool) (p : Array Nat) (k : Nat) : Prop := ∀ i j, i < j → j < k → R (G p j) (G p i) = false
def Dsc (R : Nat → Nat → Bool) (p : Array Nat) (k : Nat) : Prop := ∀ i j, i < j → j < k → R (G p i) (G p j) = false
theorem Srt.succ (T : TO R n o) (P : Pm p n) {a : Nat} (h1 : 1 ≤ a) (ha : a < n) (h : Srt R p a) (hb : R (G p a) (G p (a - 1)) = false) : Srt R p (a + 1) := by
  intro i j hij hj
  by_cases hja : j = a
  · subst hja
    by_cases hi : i = j - 1
    · subst hi; exact hb
    · exact T.tr _ _ _ (P.lt (by omega)) (P.lt (by omega)) (P.lt ha) (h i (j - 1) (by omega) (by omega)) hb
  · exact h i j hij (by omega)
theorem Dsc.succ (T : TO R n o) (P : Pm p n) {a : Nat} (h1 : 1 ≤ a) (ha : a < n) (h : Dsc R p a) (hb : R (G p (a - 1)) (G p a) = false) : Dsc R p (a + 1) := by
  intro i j hij hj
  by_cases hja : j = a
  · subst hja
    by_cases hi : i = j - 1
    · subst hi; exact hb
    · exact T.tr _ _ _ (P.lt ha) (P.lt (by omega)) (P.lt (by omega)) hb (h i (j - 1) (by omega) (by omega))
  · exact h i j hij (by omega)
theorem po_asc (T : TO R n o) (P : Pm p n) {Q : Nat → Prop} : ∀ f a, 1 ≤ a → a + f = n → Srt R p a → (∀ m, a ≤ m → m ≤ n → Srt R p m → (m < n → R (G p m) (G p (m - 1)) = true) → Q m) → PO o Q (kas_asc p f a)
  | 0, a, h1, ha, hs, nx => PO.ret (nx a (Nat.le_refl _) (by omega) hs fun h => absurd h (by omega))
  | f + 1, a, h1, ha, hs, nx => by
    refine PO.ask (T.or _ _ (P.lt (by omega)) (P.lt (by omega))) ?_
    change PO o Q (if R (G p a) (G p (a - 1)) = true then .ret a else kas_asc p f (a + 1))
    by_cases hb : R (G p a) (G p (a - 1)) = true
    · rw [if_pos hb]
      exact PO.ret (nx a (Nat.le_refl _) (by omega) hs fun _ => hb)
    · rw [if_neg hb]
      exact po_asc T P f (a + 1) (by omega) (by omega) (hs.succ T P h1 (by omega) (by simpa using hb)) fun m hm => nx m (by omega)
theorem po_desc (T : TO R n o) (P : Pm p n) {Q : Array Nat × Nat × Nat → Prop} : ∀ f a, 1 ≤ a → a + f = n → Dsc R p a → (∀ m, a ≤ m → m ≤ n → Dsc R p m → Q (p, m, 0)) → PO o Q (kas_desc f p a 0)
  | 0, a, h1, ha, hs, nx => PO.ret (nx a (Nat.le_refl _) (by omega) hs)
  | f + 1, a, h1, ha, hs, nx => by
    refine PO.ask (T.or _ _ (P.lt (by omega)) (P.lt (by omega))) ?_
    change PO o Q (if R (G p a) (G p (a - 1)) = true then (if 0 > 0 then kas_desc f (kas_rev p (a - (0 + 1)) a) (a + 1) 0 else kas_desc f p (a + 1) 0) else .ask (G p (a - 1)) (G p a) fun d => if d = true then .ret (p, a, 0) else kas_desc f p (a + 1) (0 + 1))
    by_cases hb : R (G p a) (G p (a - 1)) = true
    · rw [if_pos hb, if_neg (by omega)]
      exact po_desc T P f (a + 1) (by omega) (by omega) (hs.succ T P h1 (by omega) (T.as _ _ (P.lt (by omega)) (P.lt (by omega)) hb)) fun m hm => nx m (by omega)
    · rw [if_neg hb]
      have hd : R (G p (a - 1)) (G p a) = true := T.tot _ _ (P.lt (by omega)) (P.lt (by omega)) (P.ne (by omega) (by omega) (by omega)) (by simpa using hb)
      refine PO.ask (hd ▸ T.or _ _ (P.lt (by omega)) (P.lt (by omega))) ?_
      exact PO.ret (nx a (Nat.le_refl _) (by omega) hs)
theorem G_rev (P : Pm p n) {m : Nat} (hm : m ≤ n) (k : Nat) (hk : k < m) : G (kas_rev p 0 m) k = G p (m - 1 - k) := by
  rw [G_is, G_is]
  show ((mirror p 0 m ((m - 0) / 2))[k]?).getD 0 = _
  rw [getElem?_mirror_all (by rw [P.size]; exact hm), if_pos ⟨by omega, hk⟩]
  congr 2
  omega
theorem Pm.rev (P : Pm p n) (m : Nat) : Pm (kas_rev p 0 m) n := Array.Perm.trans (mirror_perm _ _ _ _) P
theorem po_tail3 (T : TO R n o) (P : Pm p n) {Q : Nat × Array Nat → Prop} {m : Nat} (h1 : 1 ≤ m) (hm : m ≤ n) (hd : Dsc R p m) (nx : ∀ m' p', 1 ≤ m' → m' ≤ n → Pm p' n → Srt R p' m' → Q (m', p')) : PO o Q (kas_tail3 m n p) := by
  unfold kas_tail3
  refine PO.bind (po_asc T (P.rev m) (n - m) m h1 (by omega) (fun i j hij hj => ?_) fun m' a b c d => PO.ret (nx m' _ (by omega) b (P.rev m) c))
  rw [G_rev P hm j hj, G_rev P hm i (by omega)]
  exact hd _ _ (by omega) (by omega)
theorem po_count (T : TO R n o) (P : Pm p n) (hn : 1 ≤ n) {Q : Nat × Array Nat → Prop} (nx : ∀ m' p', 1 ≤ m' → m' ≤ n → Pm p' n → Srt R p' m' → Q (m', p')) : PO o Q (kas_count n p) := by
  unfold kas_count
  refine PO.bind (po_asc T P (n - 1) 1 (by omega) (by omega) (fun i j hij hj => absurd hj (by omega)) fun m h1 hm hs hb => ?_)
  by_cases he : m = n
  · rw [if_pos (by simpa using he)]
    exact PO.ret (nx m p h1 hm P hs)
  · rw [if_neg (by simpa using he)]
    by_cases h2 : m > 1
    · rw [if_pos h2]
      refine PO.ask (T.tot _ _ (P.lt (i := m - 1) (by omega)) (P.lt (i := 0) (by omega)) (P.ne (by omega) (by omega) (by omega)) (hs 0 (m - 1) (by omega) (by omega)) ▸ T.or _ _ (P.lt (i := 0) (by omega)) (P.lt (i := m - 1) (by omega))) ?_
      exact PO.ret (nx m p h1 hm P hs)
    · rw [if_neg h2]
      have e1 : m = 1 := by omega
      subst e1
      have hb' := hb (by omega)
      unfold kas_descPart
      have d2 : Dsc R p (1 + 1) := Dsc.succ T P (by omega) (by omega) (fun i j hij hj => absurd hj (by omega)) (T.as _ _ (P.lt (by omega)) (P.lt (by omega)) hb')
      refine PO.bind (po_desc T P (n - (1 + 1)) (1 + 1) (by omega) (by omega) d2 fun m2 a b c => ?_)
      show PO o Q (if (0 : Nat) > 0 then _ else kas_tail3 m2 n p)
      rw [if_neg (by omega)]
      exact po_tail3 T P (by omega) b c nx
theorem po_place (T : TO R n o) (P : Pm p n) {k : Nat} (hk : k < n) (hs : Srt R p k) {Q : Nat → Prop} (nx : ∀ l, l ≤ k → (∀ i, i < l → R (G p k) (G p i) = false) → (∀ i, l ≤ i → i < k → R (G p k) (G p i) = true) → Q l) :
    ∀ f l r, l ≤ r → r ≤ k → r - l ≤ f → (∀ i, i < l → R (G p k) (G p i) = false) → (∀ i, r ≤ i → i < k → R (G p k) (G p i) = true) → PO o Q (kas_place p k f l r)
  | 0, l, r, h1, h2, h3, lo, hi => PO.ret (nx l (by omega) lo fun i a b => hi i (by omega) b)
  | f + 1, l, r, h1, h2, h3, lo, hi => by
    unfold kas_place
    by_cases hge : l ≥ r
    · rw [if_pos hge]
      exact PO.ret (nx l (by omega) lo fun i a b => hi i (by omega) b)
    · rw [if_neg hge]
      have hmid : (l + r) / 2 < k := by omega
      refine PO.ask (T.or _ _ (P.lt hk) (P.lt (i := (l + r) / 2) (by omega))) ?_
      change PO o Q (if R (G p k) (G p ((l + r) / 2)) = true then kas_place p k f l ((l + r) / 2) else kas_place p k f ((l + r) / 2 + 1) r)
      by_cases hb : R (G p k) (G p ((l + r) / 2)) = true
      · rw [if_pos hb]
        refine po_place T P hk hs nx f l ((l + r) / 2) (by omega) (by omega) (by omega) lo fun i a b => ?_
        by_cases hi' : i = (l + r) / 2
        · subst hi'; exact hb
        · have hle := hs ((l + r) / 2) i (by omega) b
          cases hq : R (G p k) (G p i) with
          | true => rfl
          | false => rw [T.tr _ _ _ (P.lt (by omega)) (P.lt (by omega)) (P.lt hk) hle hq] at hb; cases hb
      · rw [if_neg hb]
        refine po_place T P hk hs nx f ((l + r) / 2 + 1) r (by omega) h2 (by omega) (fun i a => ?_) hi
        by_cases hi' : i = (l + r) / 2
        · subst hi'; simpa using hb
        · exact T.tr _ _ _ (P.lt (by omega)) (P.lt (by omega)) (P.lt hk) (hs i ((l + r) / 2) (by omega) hmid) (by simpa using hb)
theorem G_bubble (P : Pm p n) {k l : Nat} (hk : k < n) (hl : l ≤ k) (i : Nat) : G (bubble p k (k - l)) i = if i = l then G p k else if l < i ∧ i ≤ k then G p (i - 1) else G p i := by
  rw [G_is, getElem?_bubble (by rw [P.size]; exact hk) _ (by omega), show k - (k - l) = l by omega]
  repeat' split
  all_goals rw [G_is]
theorem po_bin (T : TO R n o) {Q : Array Nat → Prop} (nx : ∀ p', Pm p' n → Srt R p' n → Q p') : ∀ (f : Nat) (p : Array Nat) (k : Nat), Pm p n → k + f = n → Srt R p k → PO o Q (kas_bin f p k)
  | 0, p, k, P, hk, hs => PO.ret (nx p P (by rw [show n = k by omega]; exact hs))
  | f + 1, p, k, P, hk, hs => by
    show PO o Q ((kas_place p k k 0 k).bind fun l => kas_bin f (bubble p k (k - l)) (k + 1))
    have hkn : k < n := by omega
    refine PO.bind (po_place T P hkn hs (fun l hl lo hi => ?_) k 0 k (by omega) (by omega) (by omega) (fun i a => absurd a (by omega)) fun i a b => absurd b (by omega))
    refine po_bin T nx f _ (k + 1) (Array.Perm.trans (bubble_perm _ _ _) P) (by omega) fun i j hij hj => ?_
    rw [G_bubble P hkn hl, G_bubble P hkn hl]
    repeat' split
    all_goals first
      | (exfalso; omega)
      | exact lo _ (by omega)
      | exact T.as _ _ (P.lt hkn) (P.lt (by omega)) (hi _ (by omega) (by omega))
      | exact hs _ _ (by omega) (by omega)
theorem po_sort (T : TO R n o) (hn : 1 ≤ n) : PO o (fun p => Pm p n ∧ Srt R p n) (kas_sort n) := by
  unfold kas_sort
  refine PO.bind (po_count T (Array.Perm.refl _ : Pm _ n) hn fun m p' h1 hm P hs => ?_)
  show PO o _ (if m < n then kas_bin (n - max m 1) p' (max m 1) else .ret p')
  by_cases hmn : m < n
  · rw [if_pos hmn, show max m 1 = m by omega]
    exact po_bin T (fun p' a b => ⟨a, b⟩) _ p' m P (by omega) hs
  · rw [if_neg hmn]
    have : m = n := by omega
    subst this
    exact .ret ⟨P, hs⟩
end
theorem PO.imp {α : Type} {o : Nat → Nat → Bool → Prop} {Q R : α → Prop} {t : KasT α} (h : PO o Q t) (k : ∀ a, Q a → R a) : PO o R t := by
  induction h with
  | ret h => exact .ret (k _ h)
  | ask e _ ih => exact .ask e ih
theorem SortTo.one {l : List D} {Q : List D → Prop} (h : SortTo l Q) : ∃ m, Q m ∧ SortTo l fun q => q = m := by
  rcases h with ⟨h, q⟩ | ⟨h2, h64, ok, po⟩
  · exact ⟨l, q, .inl ⟨h, rfl⟩⟩
  · obtain ⟨p, q, po1⟩ := po.one
    exact ⟨_, q, .inr ⟨h2, h64, ok, po1.imp fun a e => by rw [e]⟩⟩
section
variable {α : Type} {d : α → D} {lt : α → α → Bool} {L : List α}
theorem range_pick : ∀ (l : List α), (List.range l.length).filterMap (l[·]?) = l
  | [] => rfl
  | x :: l => by
    rw [List.length_cons, List.range_succ_eq_map, List.filterMap_cons, List.filterMap_map]
    exact congrArg (x :: ·) (range_pick l)
theorem pick_map {q : List Nat} (h : ∀ i ∈ q, i < L.length) : (q.map fun i => (L.map d).getD i PyData.none) = (q.filterMap (L[·]?)).map d := by
  induction q with
  | nil => rfl
  | cons i q ih =>
    have hi := h i (.head _)
    rw [List.map_cons, List.filterMap_cons, List.getElem?_eq_getElem hi]
    show _ = d L[i] :: _
    rw [← ih fun j hj => h j (.tail _ hj), List.getD_eq_getElem?_getD, List.getElem?_map, List.getElem?_eq_getElem hi]
    rfl
def RL (lt : α → α → Bool) (L : List α) (i j : Nat) : Bool := ((L[i]?).bind fun x => (L[j]?).map fun y => lt x y).getD false
theorem RL_at {i j : Nat} (hi : i < L.length) (hj : j < L.length) : RL lt L i j = lt L[i] L[j] := by
  unfold RL
  rw [List.getElem?_eq_getElem hi, List.getElem?_eq_getElem hj]
  rfl
theorem sort_is (hl : L.length < 64) (hok : ∀ x ∈ L, OkS (d x)) (hlt : ∀ x ∈ L, ∀ y ∈ L, LtP (d x) (d y) (lt x y)) (nd : L.Nodup)
    (tr : ∀ x ∈ L, ∀ y ∈ L, ∀ z ∈ L, lt y x = false → lt z y = false → lt z x = false) (tot : ∀ x ∈ L, ∀ y ∈ L, x ≠ y → lt x y = false → lt y x = true) (as : ∀ x ∈ L, ∀ y ∈ L, lt x y = true → lt y x = false) :
    SortTo (L.map d) fun m => ∃ out : List α, m = out.map d ∧ out.Perm L ∧ out.Pairwise fun a b => lt b a = false := by
  by_cases h2 : L.length < 2
  · refine .inl ⟨(List.length_map _).symm ▸ h2, L, rfl, .refl _, ?_⟩
    match L, h2 with
    | [], _ => exact .nil
    | [x], _ => exact List.pairwise_singleton ..
    | _ :: _ :: _, h => exact absurd h (Nat.not_lt.mpr (Nat.le_add_left 2 _))
  have mem : ∀ {i} (h : i < L.length), L[i] ∈ L := fun h => List.getElem_mem h
  have T : TO (RL lt L) L.length (LtAt (L.map d)) := by
    refine ⟨fun i j hi hj => ⟨d L[i], d L[j], ?_, ?_, ?_⟩, fun a b c ha hb hc => ?_, fun a b ha hb hab => ?_, fun a b ha hb => ?_⟩
    · rw [List.getElem?_map, List.getElem?_eq_getElem hi]; rfl
    · rw [List.getElem?_map, List.getElem?_eq_getElem hj]; rfl
    · rw [RL_at hi hj]
      exact hlt _ (mem hi) _ (mem hj)
    · rw [RL_at hb ha, RL_at hc hb, RL_at hc ha]
      exact tr _ (mem ha) _ (mem hb) _ (mem hc)
    · rw [RL_at ha hb, RL_at hb ha]
      exact tot _ (mem ha) _ (mem hb) fun e => hab ((List.getElem_inj nd).mp e)
    · rw [RL_at ha hb, RL_at hb ha]
      exact as _ (mem ha) _ (mem hb)
  have ge2 := Nat.le_of_not_lt h2
  refine .inr ⟨(List.length_map _).symm ▸ ge2, (List.length_map _).symm ▸ hl, fun x hx => ?_, (List.length_map (as := L) d).symm ▸ (po_sort T (Nat.le_of_succ_le ge2)).imp fun p ⟨P, hs⟩ => ⟨p.toList.filterMap (L[·]?), ?_, ?_, ?_⟩⟩
  · obtain ⟨y, hy, rfl⟩ := List.mem_map.mp hx
    exact hok y hy
  · exact pick_map fun i hi => List.mem_range.mp ((Array.perm_iff_toList_perm.mp P).mem_iff.mp hi)
  · refine ((Array.perm_iff_toList_perm.mp P).filterMap (L[·]?)).trans ?_
    rw [List.toList_toArray, range_pick]
  · have hp : p.toList.Pairwise fun a b => RL lt L b a = false := by
      rw [List.pairwise_iff_getElem]
      intro i j hi hj hij
      have hi' : i < p.size := hi
      have hj' : j < p.size := hj
      have := hs i j hij (P.size ▸ hj')
      rw [G_is, G_is, getElem?_pos p i hi', getElem?_pos p j hj'] at this
      exact this
    refine List.Pairwise.filterMap _ (fun a a' h b hb b' hb' => ?_) hp
    obtain ⟨h1, rfl⟩ := List.getElem?_eq_some_iff.mp hb
    obtain ⟨h2, rfl⟩ := List.getElem?_eq_some_iff.mp hb'
    rw [RL_at h2 h1] at h
    exact h
theorem sort_perm {M : List α} (hp : L.Perm M) (hl : L.length < 64) (hok : ∀ x ∈ L, OkS (d x)) (hlt : ∀ x ∈ L, ∀ y ∈ L, LtP (d x) (d y) (lt x y)) (nd : L.Nodup)
    (tr : ∀ x ∈ L, ∀ y ∈ L, ∀ z ∈ L, lt y x = false → lt z y = false → lt z x = false) (tot : ∀ x ∈ L, ∀ y ∈ L, x ≠ y → lt x y = false → lt y x = true) (as : ∀ x ∈ L, ∀ y ∈ L, lt x y = true → lt y x = false) :
    ∃ out : List α, (SortTo (L.map d) fun m => m = out.map d) ∧ (SortTo (M.map d) fun m => m = out.map d) ∧ out.Perm L := by
  obtain ⟨_, ⟨o1, rfl, a2, a3⟩, a1⟩ := (sort_is hl hok hlt nd tr tot as).one
  have m : ∀ x, x ∈ M → x ∈ L := fun x hx => hp.mem_iff.mpr hx
  obtain ⟨_, ⟨o2, rfl, b2, b3⟩, b1⟩ := (sort_is (L := M) (d := d) (lt := lt) (hp.length_eq ▸ hl) (fun x h => hok x (m x h)) (fun x h y k => hlt x (m x h) y (m y k)) (hp.nodup_iff.mp nd) (fun x h y k z q => tr x (m x h) y (m y k) z (m z q)) (fun x h y k => tot x (m x h) y (m y k)) fun x h y k => as x (m x h) y (m y k)).one
  have e : o1 = o2 := List.Perm.eq_of_pairwise (fun x y hx hy h1 h2 => Classical.byContradiction fun hne => Bool.noConfusion (h1.symm.trans (tot x (a2.mem_iff.mp hx) y (m y (b2.mem_iff.mp hy)) hne h2))) a3 b3 (a2.trans (hp.trans b2.symm))
  subst e
  exact ⟨o1, a1, b1, a2⟩
end
abbrev TL := List Nat
theorem tl_tri (a b : TL) : a < b ∨ a = b ∨ b < a := by
  by_cases h1 : a < b
  · exact .inl h1
  · by_cases h2 : b < a
    · exact .inr (.inr h2)
    · exact .inr (.inl (List.le_antisymm (List.not_lt.mp h2) (List.not_lt.mp h1)))
def lx (a b : TL × TL) : Bool := if a.1 = b.1 then decide (a.2 < b.2) else decide (a.1 < b.1)
theorem lx_iff (a b : TL × TL) : lx a b = true ↔ a.1 < b.1 ∨ (a.1 = b.1 ∧ a.2 < b.2) := by
  unfold lx
  by_cases h : a.1 = b.1
  · rw [if_pos h, decide_eq_true_iff]
    constructor
    · exact fun q => .inr ⟨h, q⟩
    · rintro (q | q)
      · rw [h] at q; exact absurd q (List.lt_irrefl _)
      · exact q.2
  · rw [if_neg h, decide_eq_true_iff]
    constructor
    · exact .inl
    · rintro (q | q)
      · exact q
      · exact absurd q.1 h
theorem lx_trans {a b c : TL × TL} (h1 : lx a b = true) (h2 : lx b c = true) : lx a c = true := by
  rw [lx_iff] at *
  rcases h1 with h1 | ⟨h1, h1'⟩ <;> rcases h2 with h2 | ⟨h2, h2'⟩
  · exact .inl (List.lt_trans h1 h2)
  · exact .inl (by rw [← h2]; exact h1)
  · exact .inl (by rw [h1]; exact h2)
  · exact .inr ⟨h1.trans h2, List.lt_trans h1' h2'⟩
theorem lx_irr (a : TL × TL) : lx a a = false := by
  cases h : lx a a with
  | false => rfl
  | true =>
    rw [lx_iff] at h
    rcases h with h | h
    · exact absurd h (List.lt_irrefl _)
    · exact absurd h.2 (List.lt_irrefl _)
theorem lx_tri (a b : TL × TL) : lx a b = true ∨ a = b ∨ lx b a = true := by
  rw [lx_iff, lx_iff]
  rcases tl_tri a.1 b.1 with h | h | h
  · exact .inl (.inl h)
  · rcases tl_tri a.2 b.2 with g | g | g
    · exact .inl (.inr ⟨h, g⟩)
    · exact .inr (.inl (Prod.ext h g))
    · exact .inr (.inr (.inr ⟨h.symm, g⟩))
  · exact .inr (.inr (.inl h))
theorem lx_as {a b : TL × TL} (h : lx a b = true) : lx b a = false := by
  cases q : lx b a with
  | false => rfl
  | true => have := lx_trans h q; rw [lx_irr] at this; cases this
theorem lx_le {a b c : TL × TL} (h1 : lx b a = false) (h2 : lx c b = false) : lx c a = false := by
  cases q : lx c a with
  | false => rfl
  | true =>
    rcases lx_tri a b with h | h | h
    · have := lx_trans q h; rw [h2] at this; cases this
    · rw [h, h2] at q; cases q
    · rw [h1] at h; cases h
theorem tc {sn : Nat → Nat} {bk : Str} {x : Nat} {r : List Nat} : txtL (pcsFrom sn bk (x :: r)) = pcL (bk, sg (sn x)) ++ txtL (pcsFrom sn (nextB x r) r) := rfl
theorem tx_next {sn : Nat → Nat} {x d : Nat} {r : List Nat} (h : chain (x :: d :: r)) : (d = x + 4 ∧ txtL (pcsFrom sn (nextB x (d :: r)) (d :: r)) = 32 :: sn d :: txtL (pcsFrom sn (nextB d r) r)) ∨ (d = x + 1 ∧ txtL (pcsFrom sn (nextB x (d :: r)) (d :: r)) = sn d :: txtL (pcsFrom sn (nextB d r) r)) :=
  h.2.1.elim (fun q => .inr ⟨q, by rw [show nextB x (d :: r) = emptyS from bl_1 q]; rfl⟩) fun q => .inl ⟨q, by rw [show nextB x (d :: r) = spS from bl_4 q]; rfl⟩
theorem tx_inj {sn : Nat → Nat} (hs : ∀ c, c < 16 → sn c ≠ 32) : ∀ (a b : List Nat) (x : Nat), chain (x :: a) → chain (x :: b) → txtL (pcsFrom sn (nextB x a) a) = txtL (pcsFrom sn (nextB x b) b) → a = b
  | [], [], _, _, _, _ => rfl
  | [], d :: r, x, ha, hb, h => by
    rcases tx_next (sn := sn) hb with ⟨_, e⟩ | ⟨_, e⟩ <;> exact nomatch h.trans e
  | c :: a, [], x, ha, hb, h => by
    rcases tx_next (sn := sn) ha with ⟨_, e⟩ | ⟨_, e⟩ <;> exact nomatch h.symm.trans e
  | c :: a, d :: r, x, ha, hb, h => by
    have hc := (chain_hd (chain_hd ha).2).1
    have hd := (chain_hd (chain_hd hb).2).1
    have go : c = d → txtL (pcsFrom sn (nextB c a) a) = txtL (pcsFrom sn (nextB d r) r) → c :: a = d :: r := fun q k => by
      subst q
      rw [tx_inj hs a r c (chain_hd ha).2 (chain_hd hb).2 k]
    rcases tx_next (sn := sn) ha with ⟨p, e⟩ | ⟨p, e⟩ <;> rcases tx_next (sn := sn) hb with ⟨q, f⟩ | ⟨q, f⟩ <;> rw [e, f] at h
    · exact go (p.trans q.symm) (List.cons.inj (List.cons.inj h).2).2
    · exact absurd (List.cons.inj h).1.symm (hs d hd)
    · exact absurd (List.cons.inj h).1 (hs c hc)
    · exact go (p.trans q.symm) (List.cons.inj h).2
def tx (xs : List Int) (row : List Nat) : TL := txtL (pcX xs row)
def From (s : Nat) (row : List Nat) : Prop := chain row ∧ ∃ r, row = s :: r
theorem tx_row {xs : List Int} {s : Nat} {a b : List Nat} (ha : From s a) (hb : From s b) (h : tx xs a = tx xs b) : a = b := by
  obtain ⟨c1, r1, rfl⟩ := ha
  obtain ⟨c2, r2, rfl⟩ := hb
  rw [tx_inj (fun c hc => (snX_ok xs c hc).ne) r1 r2 s c1 c2 (List.cons.inj h).2]
theorem ofL_inj {a b : List Nat} (h : ofL a = ofL b) : a = b := congrArg (fun s : Str => s.cps.toList) h
theorem told_eqv {xs : List Int} {s : Nat} {a b : List Nat} (ha : From s a) (hb : From s b) : PyData.eqv (tellD xs 0 a) (tellD xs 0 b) = decide (tx xs a = tx xs b) := by
  by_cases h : tx xs a = tx xs b
  · rw [decide_eq_true h, tx_row ha hb h]
    exact (tellD_ok (n := 0) hb.1).eqv
  · rw [decide_eq_false h]
    show ((ofL (tx xs a) == ofL (tx xs b)) && _) = false
    rw [beq_eq_false_iff_ne.mpr fun q => h (ofL_inj q)]
    rfl
theorem told_lt {xs : List Int} {a b : List Nat} (h : tx xs a ≠ tx xs b) : LtT (tellD xs 0 a) (tellD xs 0 b) (decide (tx xs a < tx xs b)) := .mk fun q => h (ofL_inj q)
def key (xs : List Int) (p : Pr) : TL × TL := (tx xs p.1, tx xs p.2)
structure RowsIn (p : Pr) : Prop where
  a : From 1 p.1
  b : From 4 p.2
theorem pair_lt {xs : List Int} {p q : Pr} (hp : RowsIn p) (hq : RowsIn q) : LtP (pairD xs p) (pairD xs q) (lx (key xs p) (key xs q)) := by
  have ok : ∀ {s : Nat} {a b : List Nat}, From s a → From s b → okEq (tellD xs 0 a) (tellD xs 0 b) = true := fun h k => okEq_of (.mono (n := 3) (tellD_ok (n := 0) h.1) (by decide)) (.mono (n := 3) (tellD_ok (n := 0) k.1) (by decide))
  unfold lx
  by_cases h1 : tx xs p.1 = tx xs q.1
  · rw [if_pos (show (key xs p).1 = (key xs q).1 from h1)]
    by_cases h2 : tx xs p.2 = tx xs q.2
    · rw [show (key xs p).2 = (key xs q).2 from h2, decide_eq_false (List.lt_irrefl _)]
      exact .eq (ok hp.a hq.a) ((told_eqv hp.a hq.a).trans (decide_eq_true h1)) (ok hp.b hq.b) ((told_eqv hp.b hq.b).trans (decide_eq_true h2))
    · exact .snd (ok hp.a hq.a) ((told_eqv hp.a hq.a).trans (decide_eq_true h1)) (ok hp.b hq.b) ((told_eqv hp.b hq.b).trans (decide_eq_false h2)) (told_lt h2)
  · rw [if_neg (show ¬ (key xs p).1 = (key xs q).1 from h1)]
    exact .fst (ok hp.a hq.a) ((told_eqv hp.a hq.a).trans (decide_eq_false h1)) (told_lt h1)
theorem pcs_cut (sn : Nat → Nat) : ∀ (j : Nat) (a b : List Nat) (u v : Str) (c : Nat), a[j]? = some c → b[j]? = some c → (pcsFrom sn u a).take (j + 1) ++ (pcsFrom sn v b).drop (j + 1) = pcsFrom sn u (a.take (j + 1) ++ b.drop (j + 1))
  | _, [], _, _, _, _, h, _ => nomatch h
  | _, _ :: _, [], _, _, _, _, h => nomatch h
  | 0, x :: a, y :: b, u, v, c, h1, h2 => by
    cases Option.some.inj (h1.trans h2.symm)
    rfl
  | j + 1, x :: a, y :: b, u, v, c, h1, h2 => by
    have ih := pcs_cut sn j a b (nextB x a) (nextB y b) c h1 h2
    have en : nextB x (a.take (j + 1) ++ b.drop (j + 1)) = nextB x a := by
      cases a with
      | nil => cases h1
      | cons d a => rfl
    show (u, sg (sn x)) :: ((pcsFrom sn (nextB x a) a).take (j + 1) ++ (pcsFrom sn (nextB y b) b).drop (j + 1)) = (u, sg (sn x)) :: pcsFrom sn (nextB x (a.take (j + 1) ++ b.drop (j + 1))) (a.take (j + 1) ++ b.drop (j + 1))
    rw [ih, en]
theorem exP_swp (xs : List Int) {p : Pr} (h : p ∈ crossO) : exP xs p = pairD xs (swp p) := by
  have X := cross_facts p h
  obtain ⟨c, hc⟩ := Option.isSome_iff_exists.mp X.some
  have e1 := pcs_cut (snX xs) (cut p - 1) p.1 p.2 emptyS emptyS c (X.g1.trans hc) (X.g2.trans hc)
  have e2 := pcs_cut (snX xs) (cut p - 1) p.2 p.1 emptyS emptyS c (X.g2.trans hc) (X.g1.trans hc)
  rw [Nat.sub_add_cancel X.cut1] at e1 e2
  show PyData.tuple [toldD 0 _, toldD 0 _] = PyData.tuple [toldD 0 _, toldD 0 _]
  unfold pcX
  rw [e1, e2]
  rfl
theorem crossX_is (xs : List Int) : crossX xs = crossO.filter (open2 (clX xs)) := by
  unfold crossX crossO
  rw [fam_is, fam_is, prs_filter, filter_swap]
theorem all_perm {α : Type} {l m : List α} (f : α → Bool) (h : l.Perm m) : l.all f = m.all f := by
  rw [Bool.eq_iff_iff, List.all_eq_true, List.all_eq_true]
  exact ⟨fun k x hx => k x (h.mem_iff.mpr hx), fun k x hx => k x (h.mem_iff.mp hx)⟩
theorem crossX_perm (xs : List Int) : ((crossX xs).map swp).Perm (acrL xs) := by
  rw [crossX_is, acrX_is]
  have e : crossO.filter (open2 (clX xs)) = crossO.filter (open2 (clX xs) ∘ swp) := List.filter_congr fun p hp => by
    show (open' (clX xs) p.1 && open' (clX xs) p.2) = (open' (clX xs) (swp p).1 && open' (clX xs) (swp p).2)
    unfold open'
    rw [← List.all_append, ← List.all_append]
    exact (all_perm _ (cross_cells p hp)).symm
  rw [e, ← List.filter_map]
  exact cross_perm.filter _
theorem acr_nodup : (prs (famO (1, 14)) (famO (4, 11))).Nodup := by decide +kernel
theorem swp_exP (xs : List Int) : ((crossX xs).map swp).map (pairD xs) = (dbl xs).2 := by
  rw [dbl_2, List.map_map]
  exact List.map_congr_left fun p hp => (exP_swp xs (List.mem_filter.mp (crossX_is xs ▸ hp)).1).symm
theorem acrX_rows (xs : List Int) : ∀ p ∈ acrL xs, RowsIn p := fun p hp => by
  have h := prs_mem (List.mem_filter.mp (acrX_is xs ▸ hp)).1
  exact ⟨famO_chain (p := (1, 14)) (by decide) h.1, famO_chain (p := (4, 11)) (by decide) h.2⟩
theorem sort_pairs (xs : List Int) : ∃ out : List Pr, (SortTo (dbl xs).2 fun m => m = out.map (pairD xs)) ∧ (SortTo ((acrL xs).map (pairD xs)) fun m => m = out.map (pairD xs)) ∧ ∀ p ∈ out, RowsIn p := by
  have hperm := crossX_perm xs
  have inL : ∀ p ∈ (crossX xs).map swp, RowsIn p := fun p hp => acrX_rows xs p (hperm.mem_iff.mp hp)
  obtain ⟨out, e1, e2, e3⟩ := sort_perm (d := pairD xs) (lt := fun p q => lx (key xs p) (key xs q)) hperm (hperm.length_eq ▸ Nat.lt_of_le_of_lt (acr_le xs) (by decide)) (fun p _ => .mk) (fun p hp q hq => pair_lt (inL p hp) (inL q hq)) (hperm.nodup_iff.mpr (acrX_is xs ▸ acr_nodup.sublist List.filter_sublist)) (fun x hx y hy z hz => lx_le) (fun x hx y hy hne h => by
    rcases lx_tri (key xs x) (key xs y) with g | g | g
    · exact Bool.noConfusion (h.symm.trans g)
    · have h' := Prod.mk.inj g
      exact absurd (Prod.ext (tx_row (inL x hx).a (inL y hy).a h'.1) (tx_row (inL x hx).b (inL y hy).b h'.2)) hne
    · exact g) (fun x hx y hy => lx_as)
  rw [swp_exP] at e1
  exact ⟨out, e1, e2, fun p hp => inL p (e3.mem_iff.mp hp)⟩
theorem bits_neg {a : Int} : nb (-a) ≤ nb a := bits_of (by rw [Int.natAbs_neg]; exact bits_lt)
theorem sum_bits {W : Nat} : ∀ l : List Int, (∀ x ∈ l, nb x ≤ W) → nb (sumI l) ≤ W + l.length
  | [], _ => Nat.zero_le _
  | x :: l, h => bits_add (a := x) (Nat.le_trans (h x (.head _)) (Nat.le_add_right _ _)) (sum_bits l fun y hy => h y (.tail _ hy))
theorem w_mem : ∀ {xs : List Int} {x : Int}, x ∈ xs → nb x ≤ WData.weightAll (xs.map .int)
  | y :: xs, x, h => by
    have e : WData.weightAll ((y :: xs).map .int) = nb y + 1 + WData.weightAll (xs.map .int) := by
      rw [List.map_cons]
      simp only [WData.weightAll, WData.weight]
      rfl
    rw [e]
    exact (List.mem_cons.mp h).elim (fun q => q ▸ Nat.le_trans (Nat.le_succ _) (Nat.le_add_right _ _)) fun h => Nat.le_trans (w_mem h) (Nat.le_add_left _ _)
theorem pick_len : ∀ n : Nat, n < 64 → (picks n (some 0) none (some 2)).length ≤ 64 ∧ (picks n (some 1) none (some 2)).length ≤ 64 := by decide +kernel
theorem slice_in {xs : List Int} {lo st : Int} : ∀ x ∈ sliceI xs lo st, x ∈ xs := fun x hx => by
  obtain ⟨i, _, hi⟩ := List.mem_filterMap.mp hx
  exact List.mem_of_getElem? hi
def BB : Nat := 1048576 + 65
theorem bd_of {xs : List Int} (hx : xs.length ≤ 63) (h : WData.layableAll [wints xs] = true) : Bd xs BB := by
  have hw : WData.weightAll (xs.map .int) ≤ 1048576 := by
    unfold WData.layableAll at h
    rw [List.all_cons] at h
    have h1 := (Bool.and_eq_true_iff.mp h).1
    unfold WData.layable wints at h1
    have h2 := of_decide_eq_true (Bool.and_eq_true_iff.mp h1).2
    rw [show WData.weight (WData.list (xs.map .int)) = WData.weightAll (xs.map .int) by simp only [WData.weight]] at h2
    omega
  have hb : ∀ x ∈ xs, nb x ≤ 1048576 := fun x hm => Nat.le_trans (w_mem hm) hw
  obtain ⟨p1, p2⟩ := pick_len xs.length (Nat.lt_succ_of_le hx)
  have s : ∀ {lo : Int}, (picks xs.length (some lo) none (some 2)).length ≤ 64 → nb (sumI (sliceI xs lo 2)) ≤ 1048576 + 64 := fun p => Nat.le_trans (sum_bits _ fun x hm => hb x (slice_in x hm)) (Nat.add_le_add_left (Nat.le_trans (List.length_filterMap_le _ _) p) _)
  have b3 : nb 3 ≤ 1048576 + 64 := by decide +kernel
  have b2 : nb (-2) ≤ 1048576 + 64 := by decide +kernel
  refine ⟨bits_add b3 (s p1), ?_, by decide, by decide⟩
  show nb (-2 - sumI (sliceI xs 1 2)) ≤ _
  rw [Int.sub_eq_add_neg]
  exact bits_add b2 (Nat.le_trans bits_neg (s p2))
section
variable {c : Cx} {xs : List Int}
theorem law_true {B : Nat} (hx : xs.length ≤ 63) (BD : Bd xs B) : EX ⟨c, 9, ks31⟩ (lb 0) (E0 xs) [] (.ret (.d (.bool true)), StP xs [] 0) := by
  obtain ⟨out, s1, s2, hr⟩ := sort_pairs xs
  have okO : OkD 64 (.list (out.map (pairD xs))) := .mono (n := 5) (.list fun d hd => by
    obtain ⟨p, hp, rfl⟩ := List.mem_map.mp hd
    exact .tuple (allC (tellD_ok (hr p hp).a.1) (allC (tellD_ok (hr p hp).b.1) allN))) (by decide)
  refine law0 hx (law1 (law2 (k0 := 8) (law3 hx (law4 (law5 (k0 := 8) (law8 (k0 := 5) ?_))))))
  refine @law9 _ _ _ _ (law10 (k0 := 0) (law12 (k0 := 0) (law13 (k0 := 5) (law14 (k0 := 5) (law15 (k0 := 7) BD (law16 (law17 (law18 (law19 (k0 := 0) BD fun e1 a1 t1 => ?_)))))))))
  have K := kn_19 a1 t1
  exact law20 (k0 := 8) K (law21 (k0 := 8) okO (fn_sortedR (i := 2) rfl s1) (fn_sorted s2) K (law22 (k0 := 8) K (law23 K (law24 (k0 := 7) K.page (law25 K.plus K.minus K.kinds (law26 (k0 := 8) BD K.ends (law27 BD K.total (total_is xs))))))))
theorem law_ok {B : Nat} (hx : xs.length ≤ 63) (BD : Bd xs B) : OpOk c 22 (fun us => call (.ref 277) us) [.d (intsD xs)] [] (.d (.bool true), []) :=
  user_ok (k := 9) (u_law c) (dvs := []) (fun _ => .nil) (EX.c (law_true hx BD)) rfl (LV.data (S := []))
end
theorem all_holds : PySem.Challenge.rw_yh0008_01.Holds := by
  refine theHead fun d kwd hdef => ?_
  intro w s₀ s₁ mg mb GR says a o pm cd doc dV kV ho hdat hcode hdf hmg hgens args vals as hpre hlay hreads hwell hsys
  have K2 : (theSets.K2 w.params).In s₁.heap := says
  have K : (zK w.params).In s₁.heap := by
    have : zK w.params = theSets.K w.params := by unfold zK; rw [← x8_is, ← x9_is]; rfl
    rw [this]
    intro b ob e
    refine K2 b ob ?_
    have n56 : (theSets.K w.params).lookup 56 = none := by kernel_rfl
    have n63 : (theSets.K w.params).lookup 63 = none := by kernel_rfl
    have b56 : (b == 56) = false := by
      rw [beq_eq_false_iff_ne]; intro q; rw [q, n56] at e; cases e
    have b63 : (b == 63) = false := by
      rw [beq_eq_false_iff_ne]; intro q; rw [q, n63] at e; cases e
    show List.lookup b ((56, o2x56 w.params) :: (63, o2x63 w.params) :: theSets.K w.params) = some ob
    rw [List.lookup_cons, b56, List.lookup_cons, b63]
    exact e
  have t56 : s₁.heap.get? 56 = some (o2x56 w.params) := K2 _ _ rfl
  have t63 : s₁.heap.get? 63 = some (o2x63 w.params) := K2 _ _ rfl
  let c : Cx := ⟨w, s₁.heap, s₁.os, K, GR.T.nolimit, t56, t63⟩
  obtain ⟨p1, p2⟩ := pre_splitW hpre
  obtain ⟨d0, r0, rfl, q1, q2⟩ := hasAllW_cons p1
  have := hasAllW_nil q2
  subst this
  obtain ⟨xs, rfl⟩ := has_list q1
  have hlen := pre_len p2
  have op : OpOk c 22 (fun us => call (.ref 277) us) [.d (intsD xs)] [] (.d (.bool true), []) := law_ok hlen (bd_of hlen hlay)
  have t56' : s₁.heap.get? 56 = some { cls := .none, data := .fields #[] } := t56
  have t63' : s₁.heap.get? 63 = some { cls := .none, data := .fields #[] } := t63
  have tb : TabOk s₁.heap := by
    intro P hP
    rcases List.mem_cons.mp hP with rfl | hP
    · exact ⟨#[], t56', trivial⟩
    · rcases List.mem_cons.mp hP with rfl | hP
      · exact ⟨#[], t63', trivial⟩
      · cases hP
  have base : ∀ P ∈ tabs, ∃ o, s₁.heap.get? P = some o ∧ o = { cls := .none, data := .fields #[] } := by
    intro P hP
    rcases List.mem_cons.mp hP with rfl | hP
    · exact ⟨_, t56', rfl⟩
    · rcases List.mem_cons.mp hP with rfl | hP
      · exact ⟨_, t63', rfl⟩
      · cases hP
  have g : Good c [] [] [] s₁ :=
    { old := ⟨OldK.refl _, base, tb⟩
      kin := K
      new := (fun _ m => nomatch m)
      live := (fun _ m => nomatch m)
      sat := .nil
      own := (fun _ m => nomatch m)
      nd := .nil
      bare := by rw [hgens]; exact AllBare.empty
      os := rfl }
  cases hreads with
  | cons r1 r2 =>
  cases r2
  cases r1 with
  | list ho1 hc1 hd1 hr1 =>
  rename_i l ob vs n1 as1
  have hlt : l ∉ tabs := fun m => by
    rcases List.mem_cons.mp m with rfl | m
    · rw [t56'] at ho1; cases ho1; cases hc1
    · rcases List.mem_cons.mp m with rfl | m
      · rw [t63'] at ho1; cases ho1; cases hc1
      · cases m
  have il : s₁.heap.IsList l vs.toList.toArray := ⟨ob, ho1, hc1, n1, by simpa using hd1⟩
  have lv : (St.mk [] [] s₁ g : St c []).vvs [Value.ref l] [.d (intsD xs)] := .cons (V.lst (fun m => nomatch m) hlt il (reads_ints hr1)) .nil
  have ha : a = 277 := by
    obtain ⟨o3, es, ep, e1, e2, e3, e4⟩ := GR.T.g
    have e5 : s₁.heap.get? 3 = some (o31x3 w.params) := K _ _ (by kernel_rfl)
    have e1' : s₁.heap.get? 3 = some o3 := e1
    rw [e5] at e1'
    cases e1'
    have e6 : nsFind es (Str.ofString "law") = some (.ref 277) := by
      have : (o31x3 w.params).data = .dict es ep := e2
      have e7 : ∀ es ep, (o31x3 w.params).data = .dict es ep → nsFind es (Str.ofString "law") = some (.ref 277) := fun es ep q => by
        cases q
        kernel_rfl
      exact e7 es ep this
    rw [e4, ← defOf_name hdef, hmg] at e6
    cases e6
    rfl
  subst ha
  refine wpAny_mono (op callerA (St.mk [] [] s₁ g) [.ref l] (fun v s' => v = .bool true ∧ OldK s₁.heap s'.heap ∧ s'.os = s₁.os ∧ AllBare s'.gens) (room_caller (by decide)) lv fun u b t hu => ?_) (fun v s' hv => ?_) fun _ _ z => z.elim
  · exact ⟨V.inv hu, b.good.old.k, b.good.os, b.good.bare⟩
  · obtain ⟨rfl, h1, h2, h3⟩ := hv
    exact ⟨.inl ⟨.bool true, .bool true, [], rfl, fun cls => rfl, .bool _, post_true xs, fun _ => ⟨.nil, fun _ m => nomatch m⟩⟩, h1, h2, h3⟩
end
end Mine
theorem PySem.Challenge.cw_yh0008_01_holds : PySem.Challenge.rw_yh0008_01.Holds :=
  Mine.all_holds
