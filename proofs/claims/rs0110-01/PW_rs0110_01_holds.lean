import PyProof.Rows.All
import Wide.All
import OpenK.AllK
import Wide.FinOn
import PySem.Challenge.RW_rs0110_01
set_option Elab.async false
set_option linter.all false
section
open PySem PySem.W PyProof.Rows PySem.Calls
namespace Mine
set_option maxRecDepth 100000
set_option maxHeartbeats 8000000
noncomputable abbrev pwH : Program := PySem.Challenge.pw_rs0110_01
/-- the text's statements but those that set its name -/
noncomputable def viewQ : Program := view pwH ((List.range 69).filter fun i => i != 1 && i != 5 && i != 10 && i != 64)
/-- a def's object -/
noncomputable def fnO (i : Nat) (m : Value) (c : Addr) : Obj := match PySem.Challenge.pw_rs0110_01.main.body[i]? with
  | some (.FunctionDef n ps b _ _ _ sc _ _ _) => { cls := .type "function", data := .func { name := n, qualname := n, params := ps, body := .stmts b, scope := sc, globals := 3, closure := [], defaults := .none, kwdefaults := .none, pyModule := m, code := .ref c } }
  | _ => { cls := .none, data := .plain }
/-- the same beside its code -/
noncomputable def fnC (i : Nat) : Obj := match PySem.Challenge.pw_rs0110_01.main.body[i]? with
  | some (.FunctionDef n ps b _ _ _ sc _ _ _) => { cls := .none, data := .func { name := n, qualname := n, params := ps, body := .stmts b, scope := sc, globals := 0, closure := [], defaults := .none, kwdefaults := .none } }
  | _ => { cls := .none, data := .plain }
noncomputable abbrev en (P : Params) (x : String) (t : Nat) (v : Value) : DictEntry := { hash := PyData.keyHash P (Str.ofString x), key := .str (Str.ofString x) t, val := v }
/-- an entry whose key is written as its signs -/
noncomputable abbrev enS (P : Params) (x : Array Nat) (t : Nat) (v : Value) : DictEntry := { hash := PyData.keyHash P ⟨x⟩, key := .str ⟨x⟩ t, val := v }
abbrev pos0 : Pos := { line := 0, col := 0, endLine := 0, endCol := 0 }
noncomputable def z1 (P : Params) : Obj := { cls := Value.type "dict", data := Data.dict #[en P "builtins" 162 (Value.ref 4), en P "__main__" 163 (Value.ref 5), en P "_sre" 244 (Value.ref 12)] 3 }
noncomputable def z2 (P : Params) : Obj := { cls := Value.none, data := Data.dict #[enS P #[105, 109, 112, 111, 114, 116, 46, 108, 111, 97, 100, 101, 100, 46, 95, 115, 114, 101] 183 (Value.bool true), en P "class._frozen_importlib.BuiltinImporter" 185 (Value.ref 14), enS P #[119, 97, 116, 99, 104, 101, 100, 46, 105, 109, 112, 111, 114, 116] 206 (Value.ref 18), en P "class._frozen_importlib.ModuleSpec" 216 (Value.ref 22), en P "sys.modules.booked-epoch" 245 (Value.int 3 0), enS P #[105, 109, 112, 111, 114, 116, 46, 108, 97, 116, 101, 114, 45, 108, 97, 105, 100, 46, 95, 115, 114, 101] 270 (Value.bool true), en P "watched.library" 272 (Value.ref 27), en P "watched.library-objects" 0 (Value.str (Str.ofString "\x0c") 0), en P "watched.library-deep._sre" 273 (Value.str (Str.ofString "\x04\x00\x00\x0b\x04\x00\x00\x0b\x04\x00\x00\x03\x04\x00\x00\x0b\x08\x04dict\x02") 0)] 9 }
noncomputable def z3 (P : Params) : Obj := { cls := Value.type "dict", data := Data.dict #[en P "__name__" 165 (Value.str (Str.ofString "__main__") 164), en P "__doc__" 166 (Value.none), en P "__package__" 167 (Value.none), en P "__loader__" 168 (Value.builtin "__main__.__loader__#opaque"), en P "__spec__" 169 (Value.none), en P "__annotations__" 170 (Value.ref 6), en P "__builtins__" 171 (Value.ref 4), en P "__file__" 173 (Value.str (Str.ofString "/claim/cut.py") 172), en P "__cached__" 174 (Value.none), en P "_sre" 275 (Value.ref 12)] 10 }
noncomputable def z11 (P : Params) : Obj := { cls := Value.type "dict", data := Data.dict #[en P "__name__" 247 (Value.str (Str.ofString "_sre") 246), en P "__doc__" 248 (Value.none), en P "__package__" 250 (Value.str (Str.ofString "") 249), en P "__loader__" 251 (Value.ref 14), en P "__spec__" 252 (Value.ref 26), en P "compile" 253 (Value.builtin "_sre.compile"), en P "template" 254 (Value.builtin "_sre.template"), en P "getcodesize" 255 (Value.builtin "_sre.getcodesize"), en P "ascii_iscased" 256 (Value.builtin "_sre.ascii_iscased"), en P "unicode_iscased" 257 (Value.builtin "_sre.unicode_iscased"), en P "ascii_tolower" 258 (Value.builtin "_sre.ascii_tolower"), en P "unicode_tolower" 259 (Value.builtin "_sre.unicode_tolower"), en P "MAGIC" 261 (Value.int 20230612 260), en P "CODESIZE" 263 (Value.int 4 262), en P "MAXREPEAT" 265 (Value.int 4294967295 264), en P "MAXGROUPS" 267 (Value.int 1073741823 266), en P "copyright" 269 (Value.str (Str.ofString " SRE 2.2.2 Copyright (c) 1997-2002 by Secret Labs AB ") 268)] 17 }
noncomputable def z13 (P : Params) : Obj := { cls := Value.type "dict", data := Data.dict #[en P "__module__" 189 (Value.str (Str.ofString "_frozen_importlib") 186), en P "__firstlineno__" 190 (Value.int 971 187), en P "__doc__" 191 (Value.builtin "_frozen_importlib.BuiltinImporter.__doc__:str#opaque"), en P "_ORIGIN" 192 (Value.str (Str.ofString "built-in") 188), en P "find_spec" 193 (Value.builtin "_frozen_importlib.BuiltinImporter.find_spec#opaque"), en P "create_module" 194 (Value.builtin "_frozen_importlib.BuiltinImporter.create_module#opaque"), en P "exec_module" 195 (Value.builtin "_frozen_importlib.BuiltinImporter.exec_module#opaque"), en P "get_code" 196 (Value.builtin "_frozen_importlib.BuiltinImporter.get_code#opaque"), en P "get_source" 197 (Value.builtin "_frozen_importlib.BuiltinImporter.get_source#opaque"), en P "is_package" 198 (Value.builtin "_frozen_importlib.BuiltinImporter.is_package#opaque"), en P "load_module" 199 (Value.builtin "_frozen_importlib.BuiltinImporter.load_module#opaque"), en P "__static_attributes__" 200 (Value.ref 15), en P "__dict__" 202 (Value.ref 16), en P "__weakref__" 204 (Value.ref 17)] 14 }
noncomputable def z14 : Obj := { cls := Value.type "type", data := Data.cls { name := Str.ofString "BuiltinImporter", bases := [Value.type "object"], mro := [Value.ref 14, Value.type "object"], ns := 13, qualname := Str.ofString "BuiltinImporter" } }
noncomputable def z16 : Obj := { cls := Value.type "getset_descriptor", data := Data.fields #[Value.str (Str.ofString "__dict__") 201, Value.ref 14, Value.builtin "function.__dict__", Value.builtin "function.__dict__#set"] }
noncomputable def z17 : Obj := { cls := Value.type "getset_descriptor", data := Data.fields #[Value.str (Str.ofString "__weakref__") 203, Value.ref 14, Value.builtin "ExceptionGroup.__weakref__", Value.none] }
noncomputable def z18 : Obj := { cls := Value.none, data := Data.seq #[Value.int 13 0, Value.str { cps := #[6, 189, 10, 95, 95, 109, 111, 100, 117, 108, 101, 95, 95, 6, 186, 17, 95, 102, 114, 111, 122, 101, 110, 95, 105, 109, 112, 111, 114, 116, 108, 105, 98, 6, 190, 15, 95, 95, 102, 105, 114, 115, 116, 108, 105, 110, 101, 110, 111, 95, 95, 4, 187, 0, 971, 6, 191, 7, 95, 95, 100, 111, 99, 95, 95, 9, 52, 95, 102, 114, 111, 122, 101, 110, 95, 105, 109, 112, 111, 114, 116, 108, 105, 98, 46, 66, 117, 105, 108, 116, 105, 110, 73, 109, 112, 111, 114, 116, 101, 114, 46, 95, 95, 100, 111, 99, 95, 95, 58, 115, 116, 114, 35, 111, 112, 97, 113, 117, 101, 6, 192, 7, 95, 79, 82, 73, 71, 73, 78, 6, 188, 8, 98, 117, 105, 108, 116, 45, 105, 110, 6, 193, 9, 102, 105, 110, 100, 95, 115, 112, 101, 99, 9, 50, 95, 102, 114, 111, 122, 101, 110, 95, 105, 109, 112, 111, 114, 116, 108, 105, 98, 46, 66, 117, 105, 108, 116, 105, 110, 73, 109, 112, 111, 114, 116, 101, 114, 46, 102, 105, 110, 100, 95, 115, 112, 101, 99, 35, 111, 112, 97, 113, 117, 101, 6, 194, 13, 99, 114, 101, 97, 116, 101, 95, 109, 111, 100, 117, 108, 101, 9, 54, 95, 102, 114, 111, 122, 101, 110, 95, 105, 109, 112, 111, 114, 116, 108, 105, 98, 46, 66, 117, 105, 108, 116, 105, 110, 73, 109, 112, 111, 114, 116, 101, 114, 46, 99, 114, 101, 97, 116, 101, 95, 109, 111, 100, 117, 108, 101, 35, 111, 112, 97, 113, 117, 101, 6, 195, 11, 101, 120, 101, 99, 95, 109, 111, 100, 117, 108, 101, 9, 52, 95, 102, 114, 111, 122, 101, 110, 95, 105, 109, 112, 111, 114, 116, 108, 105, 98, 46, 66, 117, 105, 108, 116, 105, 110, 73, 109, 112, 111, 114, 116, 101, 114, 46, 101, 120, 101, 99, 95, 109, 111, 100, 117, 108, 101, 35, 111, 112, 97, 113, 117, 101, 6, 196, 8, 103, 101, 116, 95, 99, 111, 100, 101, 9, 49, 95, 102, 114, 111, 122, 101, 110, 95, 105, 109, 112, 111, 114, 116, 108, 105, 98, 46, 66, 117, 105, 108, 116, 105, 110, 73, 109, 112, 111, 114, 116, 101, 114, 46, 103, 101, 116, 95, 99, 111, 100, 101, 35, 111, 112, 97, 113, 117, 101, 6, 197, 10, 103, 101, 116, 95, 115, 111, 117, 114, 99, 101, 9, 51, 95, 102, 114, 111, 122, 101, 110, 95, 105, 109, 112, 111, 114, 116, 108, 105, 98, 46, 66, 117, 105, 108, 116, 105, 110, 73, 109, 112, 111, 114, 116, 101, 114, 46, 103, 101, 116, 95, 115, 111, 117, 114, 99, 101, 35, 111, 112, 97, 113, 117, 101, 6, 198, 10, 105, 115, 95, 112, 97, 99, 107, 97, 103, 101, 9, 51, 95, 102, 114, 111, 122, 101, 110, 95, 105, 109, 112, 111, 114, 116, 108, 105, 98, 46, 66, 117, 105, 108, 116, 105, 110, 73, 109, 112, 111, 114, 116, 101, 114, 46, 105, 115, 95, 112, 97, 99, 107, 97, 103, 101, 35, 111, 112, 97, 113, 117, 101, 6, 199, 11, 108, 111, 97, 100, 95, 109, 111, 100, 117, 108, 101, 9, 52, 95, 102, 114, 111, 122, 101, 110, 95, 105, 109, 112, 111, 114, 116, 108, 105, 98, 46, 66, 117, 105, 108, 116, 105, 110, 73, 109, 112, 111, 114, 116, 101, 114, 46, 108, 111, 97, 100, 95, 109, 111, 100, 117, 108, 101, 35, 111, 112, 97, 113, 117, 101, 6, 200, 21, 95, 95, 115, 116, 97, 116, 105, 99, 95, 97, 116, 116, 114, 105, 98, 117, 116, 101, 115, 95, 95, 4, 0, 0, 15, 6, 202, 8, 95, 95, 100, 105, 99, 116, 95, 95, 4, 0, 0, 16, 6, 204, 11, 95, 95, 119, 101, 97, 107, 114, 101, 102, 95, 95, 4, 0, 0, 17] } 0, Value.bool true, Value.bool true, Value.str (Str.ofString "") 205, Value.int 21 0, Value.str { cps := #[6, 227, 10, 95, 95, 109, 111, 100, 117, 108, 101, 95, 95, 6, 217, 17, 95, 102, 114, 111, 122, 101, 110, 95, 105, 109, 112, 111, 114, 116, 108, 105, 98, 6, 228, 15, 95, 95, 102, 105, 114, 115, 116, 108, 105, 110, 101, 110, 111, 95, 95, 4, 218, 0, 562, 6, 229, 7, 95, 95, 100, 111, 99, 95, 95, 9, 47, 95, 102, 114, 111, 122, 101, 110, 95, 105, 109, 112, 111, 114, 116, 108, 105, 98, 46, 77, 111, 100, 117, 108, 101, 83, 112, 101, 99, 46, 95, 95, 100, 111, 99, 95, 95, 58, 115, 116, 114, 35, 111, 112, 97, 113, 117, 101, 6, 230, 8, 95, 95, 105, 110, 105, 116, 95, 95, 9, 44, 95, 102, 114, 111, 122, 101, 110, 95, 105, 109, 112, 111, 114, 116, 108, 105, 98, 46, 77, 111, 100, 117, 108, 101, 83, 112, 101, 99, 46, 95, 95, 105, 110, 105, 116, 95, 95, 35, 111, 112, 97, 113, 117, 101, 6, 231, 8, 95, 95, 114, 101, 112, 114, 95, 95, 9, 44, 95, 102, 114, 111, 122, 101, 110, 95, 105, 109, 112, 111, 114, 116, 108, 105, 98, 46, 77, 111, 100, 117, 108, 101, 83, 112, 101, 99, 46, 95, 95, 114, 101, 112, 114, 95, 95, 35, 111, 112, 97, 113, 117, 101, 6, 232, 6, 95, 95, 101, 113, 95, 95, 9, 42, 95, 102, 114, 111, 122, 101, 110, 95, 105, 109, 112, 111, 114, 116, 108, 105, 98, 46, 77, 111, 100, 117, 108, 101, 83, 112, 101, 99, 46, 95, 95, 101, 113, 95, 95, 35, 111, 112, 97, 113, 117, 101, 6, 233, 6, 99, 97, 99, 104, 101, 100, 9, 42, 95, 102, 114, 111, 122, 101, 110, 95, 105, 109, 112, 111, 114, 116, 108, 105, 98, 46, 77, 111, 100, 117, 108, 101, 83, 112, 101, 99, 46, 99, 97, 99, 104, 101, 100, 35, 111, 112, 97, 113, 117, 101, 6, 234, 6, 112, 97, 114, 101, 110, 116, 9, 42, 95, 102, 114, 111, 122, 101, 110, 95, 105, 109, 112, 111, 114, 116, 108, 105, 98, 46, 77, 111, 100, 117, 108, 101, 83, 112, 101, 99, 46, 112, 97, 114, 101, 110, 116, 35, 111, 112, 97, 113, 117, 101, 6, 235, 12, 104, 97, 115, 95, 108, 111, 99, 97, 116, 105, 111, 110, 9, 48, 95, 102, 114, 111, 122, 101, 110, 95, 105, 109, 112, 111, 114, 116, 108, 105, 98, 46, 77, 111, 100, 117, 108, 101, 83, 112, 101, 99, 46, 104, 97, 115, 95, 108, 111, 99, 97, 116, 105, 111, 110, 35, 111, 112, 97, 113, 117, 101, 6, 236, 21, 95, 95, 115, 116, 97, 116, 105, 99, 95, 97, 116, 116, 114, 105, 98, 117, 116, 101, 115, 95, 95, 4, 0, 0, 23, 6, 238, 8, 95, 95, 100, 105, 99, 116, 95, 95, 4, 0, 0, 24, 6, 240, 11, 95, 95, 119, 101, 97, 107, 114, 101, 102, 95, 95, 4, 0, 0, 25, 6, 241, 8, 95, 95, 104, 97, 115, 104, 95, 95, 0] } 0, Value.bool true, Value.bool true, Value.str (Str.ofString "") 242] 1 }
noncomputable def z20 (P : Params) : Obj := { cls := Value.type "dict", data := Data.dict #[en P "name" 208 (Value.str (Str.ofString "_sre") 207), en P "loader" 209 (Value.ref 14), en P "origin" 210 (Value.str (Str.ofString "built-in") 184), en P "loader_state" 211 (Value.none), en P "submodule_search_locations" 212 (Value.none), en P "_uninitialized_submodules" 213 (Value.ref 19), en P "_set_fileattr" 214 (Value.bool false), en P "_cached" 215 (Value.none), en P "_initializing" 243 (Value.bool false)] 9 }
noncomputable def z21 (P : Params) : Obj := { cls := Value.type "dict", data := Data.dict #[en P "__module__" 227 (Value.str (Str.ofString "_frozen_importlib") 217), en P "__firstlineno__" 228 (Value.int 562 218), en P "__doc__" 229 (Value.builtin "_frozen_importlib.ModuleSpec.__doc__:str#opaque"), en P "__init__" 230 (Value.builtin "_frozen_importlib.ModuleSpec.__init__#opaque"), en P "__repr__" 231 (Value.builtin "_frozen_importlib.ModuleSpec.__repr__#opaque"), en P "__eq__" 232 (Value.builtin "_frozen_importlib.ModuleSpec.__eq__#opaque"), en P "cached" 233 (Value.builtin "_frozen_importlib.ModuleSpec.cached#opaque"), en P "parent" 234 (Value.builtin "_frozen_importlib.ModuleSpec.parent#opaque"), en P "has_location" 235 (Value.builtin "_frozen_importlib.ModuleSpec.has_location#opaque"), en P "__static_attributes__" 236 (Value.ref 23), en P "__dict__" 238 (Value.ref 24), en P "__weakref__" 240 (Value.ref 25), en P "__hash__" 241 (Value.none)] 13 }
noncomputable def z22 : Obj := { cls := Value.type "type", data := Data.cls { name := Str.ofString "ModuleSpec", bases := [Value.type "object"], mro := [Value.ref 22, Value.type "object"], ns := 21, qualname := Str.ofString "ModuleSpec" } }
noncomputable def z23 : Obj := { cls := Value.type "tuple", data := Data.seq #[Value.str (Str.ofString "_cached") 219, Value.str (Str.ofString "_set_fileattr") 220, Value.str (Str.ofString "_uninitialized_submodules") 221, Value.str (Str.ofString "loader") 222, Value.str (Str.ofString "loader_state") 223, Value.str (Str.ofString "name") 224, Value.str (Str.ofString "origin") 225, Value.str (Str.ofString "submodule_search_locations") 226] }
noncomputable def z24 : Obj := { cls := Value.type "getset_descriptor", data := Data.fields #[Value.str (Str.ofString "__dict__") 237, Value.ref 22, Value.builtin "function.__dict__", Value.builtin "function.__dict__#set"] }
noncomputable def z25 : Obj := { cls := Value.type "getset_descriptor", data := Data.fields #[Value.str (Str.ofString "__weakref__") 239, Value.ref 22, Value.builtin "ExceptionGroup.__weakref__", Value.none] }
noncomputable def z27 : Obj := { cls := Value.none, data := Data.seq #[Value.int 11 0, Value.str { cps := #[6, 247, 8, 95, 95, 110, 97, 109, 101, 95, 95, 6, 246, 4, 95, 115, 114, 101, 6, 248, 7, 95, 95, 100, 111, 99, 95, 95, 0, 6, 250, 11, 95, 95, 112, 97, 99, 107, 97, 103, 101, 95, 95, 6, 249, 0, 6, 251, 10, 95, 95, 108, 111, 97, 100, 101, 114, 95, 95, 4, 0, 0, 14, 6, 252, 8, 95, 95, 115, 112, 101, 99, 95, 95, 4, 0, 0, 26, 6, 253, 7, 99, 111, 109, 112, 105, 108, 101, 9, 12, 95, 115, 114, 101, 46, 99, 111, 109, 112, 105, 108, 101, 6, 254, 8, 116, 101, 109, 112, 108, 97, 116, 101, 9, 13, 95, 115, 114, 101, 46, 116, 101, 109, 112, 108, 97, 116, 101, 6, 255, 11, 103, 101, 116, 99, 111, 100, 101, 115, 105, 122, 101, 9, 16, 95, 115, 114, 101, 46, 103, 101, 116, 99, 111, 100, 101, 115, 105, 122, 101, 6, 256, 13, 97, 115, 99, 105, 105, 95, 105, 115, 99, 97, 115, 101, 100, 9, 18, 95, 115, 114, 101, 46, 97, 115, 99, 105, 105, 95, 105, 115, 99, 97, 115, 101, 100, 6, 257, 15, 117, 110, 105, 99, 111, 100, 101, 95, 105, 115, 99, 97, 115, 101, 100, 9, 20, 95, 115, 114, 101, 46, 117, 110, 105, 99, 111, 100, 101, 95, 105, 115, 99, 97, 115, 101, 100, 6, 258, 13, 97, 115, 99, 105, 105, 95, 116, 111, 108, 111, 119, 101, 114, 9, 18, 95, 115, 114, 101, 46, 97, 115, 99, 105, 105, 95, 116, 111, 108, 111, 119, 101, 114, 6, 259, 15, 117, 110, 105, 99, 111, 100, 101, 95, 116, 111, 108, 111, 119, 101, 114, 9, 20, 95, 115, 114, 101, 46, 117, 110, 105, 99, 111, 100, 101, 95, 116, 111, 108, 111, 119, 101, 114, 6, 261, 5, 77, 65, 71, 73, 67, 4, 260, 0, 20230612, 6, 263, 8, 67, 79, 68, 69, 83, 73, 90, 69, 4, 262, 0, 4, 6, 265, 9, 77, 65, 88, 82, 69, 80, 69, 65, 84, 4, 264, 0, 4294967295, 6, 267, 9, 77, 65, 88, 71, 82, 79, 85, 80, 83, 4, 266, 0, 1073741823, 6, 269, 9, 99, 111, 112, 121, 114, 105, 103, 104, 116, 6, 268, 53, 32, 83, 82, 69, 32, 50, 46, 50, 46, 50, 32, 67, 111, 112, 121, 114, 105, 103, 104, 116, 32, 40, 99, 41, 32, 49, 57, 57, 55, 45, 50, 48, 48, 50, 32, 98, 121, 32, 83, 101, 99, 114, 101, 116, 32, 76, 97, 98, 115, 32, 65, 66, 32] } 0, Value.bool true, Value.bool false, Value.str (Str.ofString "_sre") 271] }
noncomputable def T_impend (P : Params) : BT := (.node (boot_o_0 P) (.node (z1 P) (.node (z3 P) (.node { cls := Value.type "tuple", data := Data.seq #[] } (.node { cls := Value.type "tuple", data := Data.seq #[] } .nil .nil) (.node z23 .nil .nil)) (.node (z11 P) (.node { cls := Value.type "list", data := Data.seq #[] } .nil .nil) (.node z27 .nil .nil))) (.node { cls := Value.type "module", dict := some 3 } (.node (boot_o_9 P) (.node z17 .nil .nil) (.node z25 .nil .nil)) (.node (z13 P) (.node (z21 P) .nil .nil) .nil))) (.node (z2 P) (.node { cls := Value.type "module", dict := some 0 } (.node { cls := Value.none, data := Data.fields #[] } (.node z16 .nil .nil) (.node z24 .nil .nil)) (.node { cls := Value.type "module", dict := some 11 } (.node (z20 P) .nil .nil) .nil)) (.node { cls := Value.type "dict", data := Data.dict #[] } (.node (boot_o_10 P) (.node z18 .nil .nil) (.node { cls := Value.ref 22, dict := some 20 } .nil .nil)) (.node z14 (.node z22 .nil .nil) .nil))))
noncomputable def z11v1 (P : Params) : Obj := { cls := Value.type "dict", data := Data.dict #[en P "__name__" 247 (Value.str (Str.ofString "_sre") 246), en P "__doc__" 248 (Value.none), en P "__package__" 250 (Value.str (Str.ofString "") 249), en P "__loader__" 251 (Value.builtin "off-the-table:_sre.__loader__:shared#opaque"), en P "__spec__" 252 (Value.builtin "off-the-table:_sre.__spec__:shared#opaque"), en P "compile" 253 (Value.builtin "_sre.compile"), en P "template" 254 (Value.builtin "off-the-table:_sre.template:shared#opaque"), en P "getcodesize" 255 (Value.builtin "off-the-table:_sre.getcodesize:shared#opaque"), en P "ascii_iscased" 256 (Value.builtin "off-the-table:_sre.ascii_iscased:shared#opaque"), en P "unicode_iscased" 257 (Value.builtin "off-the-table:_sre.unicode_iscased:shared#opaque"), en P "ascii_tolower" 258 (Value.builtin "off-the-table:_sre.ascii_tolower:shared#opaque"), en P "unicode_tolower" 259 (Value.builtin "off-the-table:_sre.unicode_tolower:shared#opaque"), en P "MAGIC" 261 (Value.int 20230612 260), en P "CODESIZE" 263 (Value.int 4 262), en P "MAXREPEAT" 265 (Value.int 4294967295 264), en P "MAXGROUPS" 267 (Value.int 1073741823 266), en P "copyright" 269 (Value.str (Str.ofString " SRE 2.2.2 Copyright (c) 1997-2002 by Secret Labs AB ") 268)] 17 }
noncomputable def H_boot (P : Params) : Heap := ⟨⟨[(boot_o_0 P), (z1 P), (z2 P), (z3 P), { cls := Value.type "module", dict := some 0 }, { cls := Value.type "module", dict := some 3 }, { cls := Value.type "dict", data := Data.dict #[] }, { cls := Value.type "tuple", data := Data.seq #[] }, { cls := Value.none, data := Data.fields #[] }, (boot_o_9 P), (boot_o_10 P), (z11v1 P), { cls := Value.type "module", dict := some 11 }, (z13 P), z14, { cls := Value.type "tuple", data := Data.seq #[] }, z16, z17, z18, { cls := Value.type "list", data := Data.seq #[] }, (z20 P), (z21 P), z22, z23, z24, z25, { cls := Value.ref 22, dict := some 20 }, z27]⟩, {}⟩
noncomputable def z30 : Obj := { cls := Value.type "code", data := Data.fields #[Value.str (Str.ofString "<module>") 277, Value.str (Str.ofString "<module>") 278, Value.str (Str.ofString "/claim/cut.py") 279, Value.int 1 0, Value.int 0 0, Value.int 0 0, Value.int 0 0, Value.int 0 0, Value.ref 28, Value.bool false, Value.int 276 0, Value.ref 29, Value.none, Value.none, Value.none, Value.none, Value.int 280 0, Value.int 1 0, Value.str (Str.ofString "/claim/cut.py") 281] }
noncomputable def z31 : Obj := { cls := Value.type "frame", slots := #[some (Value.ref 30), some (Value.ref 3), some (Value.ref 3), none, some (Value.str (Str.ofString "__main__") 164), none, some (Value.ref 0)] }
noncomputable def H_pre (P : Params) : Heap := ⟨⟨[(boot_o_0 P), (z1 P), (z2 P), (z3 P), { cls := Value.type "module", dict := some 0 }, { cls := Value.type "module", dict := some 3 }, { cls := Value.type "dict", data := Data.dict #[] }, { cls := Value.type "tuple", data := Data.seq #[] }, { cls := Value.none, data := Data.fields #[] }, (boot_o_9 P), (boot_o_10 P), (z11v1 P), { cls := Value.type "module", dict := some 11 }, (z13 P), z14, { cls := Value.type "tuple", data := Data.seq #[] }, z16, z17, z18, { cls := Value.type "list", data := Data.seq #[] }, (z20 P), (z21 P), z22, z23, z24, z25, { cls := Value.ref 22, dict := some 20 }, z27, { cls := Value.type "tuple", data := Data.seq #[] }, { cls := Value.none, data := Data.fields #[] }, z30, z31]⟩, {}⟩
noncomputable def T_block (P : Params) : BT := (.node (boot_o_0 P) (.node (z1 P) (.node (z3 P) (.node { cls := Value.type "tuple", data := Data.seq #[] } (.node { cls := Value.type "tuple", data := Data.seq #[] } (.node z31 .nil .nil) .nil) (.node z23 .nil .nil)) (.node (z11v1 P) (.node { cls := Value.type "list", data := Data.seq #[] } .nil .nil) (.node z27 .nil .nil))) (.node { cls := Value.type "module", dict := some 3 } (.node (boot_o_9 P) (.node z17 .nil .nil) (.node z25 .nil .nil)) (.node (z13 P) (.node (z21 P) .nil .nil) (.node { cls := Value.none, data := Data.fields #[] } .nil .nil)))) (.node (z2 P) (.node { cls := Value.type "module", dict := some 0 } (.node { cls := Value.none, data := Data.fields #[] } (.node z16 .nil .nil) (.node z24 .nil .nil)) (.node { cls := Value.type "module", dict := some 11 } (.node (z20 P) .nil .nil) (.node { cls := Value.type "tuple", data := Data.seq #[] } .nil .nil))) (.node { cls := Value.type "dict", data := Data.dict #[] } (.node (boot_o_10 P) (.node z18 .nil .nil) (.node { cls := Value.ref 22, dict := some 20 } .nil .nil)) (.node z14 (.node z22 .nil .nil) (.node z30 .nil .nil)))))
noncomputable abbrev S_block (w : World) (os : OsState) : SharedT := ⟨T_block w.params, 32, {}, #[], {}, 282, os⟩
noncomputable def z3v1 (P : Params) : Obj := { cls := Value.type "dict", data := Data.dict #[en P "__name__" 165 (Value.str (Str.ofString "cpy313.smtplib") 316), en P "__doc__" 166 (Value.none), en P "__package__" 167 (Value.none), en P "__loader__" 168 (Value.builtin "__main__.__loader__#opaque"), en P "__spec__" 169 (Value.none), en P "__annotations__" 170 (Value.ref 6), en P "__builtins__" 171 (Value.ref 4), en P "__file__" 173 (Value.str (Str.ofString "/claim/cut.py") 172), en P "__cached__" 174 (Value.none), en P "_sre" 275 (Value.ref 12), en P "_iter_escaped_chars" 293 (Value.ref 38), en P "_strip_quoted_realnames" 305 (Value.ref 45), en P "_check_parenthesis" 315 (Value.ref 52), en P "_twin_re_1" 333 (Value.ref 57), en P "_twin_re_2" 375 (Value.ref 62), en P "CRLF" 377 (Value.str (Str.ofString "\x0d\n") 376), en P "quotedata" 384 (Value.ref 69)] 17 }
noncomputable def z29v1 : Obj := { cls := Value.none, data := Data.fields #[Value.int 3 0, Value.int 0 0, Value.ref 37, Value.int 16 0, Value.int 0 0, Value.ref 44, Value.int 34 0, Value.int 0 0, Value.ref 51, Value.int 49 0, Value.int 0 0, Value.ref 68] }
noncomputable def z34 : Obj := { cls := Value.type "tuple", data := Data.seq #[Value.str (Str.ofString "addr") 287, Value.str (Str.ofString "pos") 288, Value.str (Str.ofString "escape") 289, Value.str (Str.ofString "ch") 290] }
noncomputable def z37 : Obj := { cls := Value.type "code", data := Data.fields #[Value.str (Str.ofString "_iter_escaped_chars") 284, Value.str (Str.ofString "_iter_escaped_chars") 285, Value.str (Str.ofString "/claim/cut.py") 286, Value.int 3 0, Value.int 1 0, Value.int 0 0, Value.int 0 0, Value.int 35 0, Value.ref 32, Value.bool true, Value.int 276 0, Value.ref 33, Value.none, Value.ref 34, Value.ref 35, Value.ref 36, Value.int 291 0, Value.int 3 0, Value.str (Str.ofString "/claim/cut.py") 292] }
noncomputable def z41 : Obj := { cls := Value.type "tuple", data := Data.seq #[Value.str (Str.ofString "addr") 297, Value.str (Str.ofString "start") 298, Value.str (Str.ofString "open_pos") 299, Value.str (Str.ofString "result") 300, Value.str (Str.ofString "pos") 301, Value.str (Str.ofString "ch") 302] }
noncomputable def z44 : Obj := { cls := Value.type "code", data := Data.fields #[Value.str (Str.ofString "_strip_quoted_realnames") 294, Value.str (Str.ofString "_strip_quoted_realnames") 295, Value.str (Str.ofString "/claim/cut.py") 296, Value.int 16 0, Value.int 1 0, Value.int 0 0, Value.int 0 0, Value.int 3 0, Value.ref 39, Value.bool true, Value.int 276 0, Value.ref 40, Value.none, Value.ref 41, Value.ref 42, Value.ref 43, Value.int 303 0, Value.int 16 0, Value.str (Str.ofString "/claim/cut.py") 304] }
noncomputable def z48 : Obj := { cls := Value.type "tuple", data := Data.seq #[Value.str (Str.ofString "addr") 309, Value.str (Str.ofString "opens") 310, Value.str (Str.ofString "pos") 311, Value.str (Str.ofString "ch") 312] }
noncomputable def z51 : Obj := { cls := Value.type "code", data := Data.fields #[Value.str (Str.ofString "_check_parenthesis") 306, Value.str (Str.ofString "_check_parenthesis") 307, Value.str (Str.ofString "/claim/cut.py") 308, Value.int 34 0, Value.int 1 0, Value.int 0 0, Value.int 0 0, Value.int 3 0, Value.ref 46, Value.bool true, Value.int 276 0, Value.ref 47, Value.none, Value.ref 48, Value.ref 49, Value.ref 50, Value.int 313 0, Value.int 34 0, Value.str (Str.ofString "/claim/cut.py") 314] }
noncomputable def z53 : Obj := { cls := Value.type "list", data := Data.seq #[Value.int 14 321, Value.int 4 322, Value.int 0 323, Value.int 1 324, Value.int 1 325, Value.int 6 326, Value.int 1 327, Value.int 16 328, Value.int 46 329, Value.int 1 330] }
noncomputable def z55 : Obj := { cls := Value.type "tuple", data := Data.seq #[Value.none] }
noncomputable def z56 : Obj := { cls := Value.type "tuple", data := Data.seq #[Value.int 14 0, Value.int 4 0, Value.int 0 0, Value.int 1 0, Value.int 1 0, Value.int 6 0, Value.int 1 0, Value.int 16 0, Value.int 46 0, Value.int 1 0] }
noncomputable def z57 : Obj := { cls := Value.type "re.Pattern", data := Data.fields #[Value.str (Str.ofString "(?m)^\\.") 319, Value.int 40 332, Value.int 0 0, Value.none, Value.none, Value.ref 56, Value.int 0 0] }
noncomputable def z58 : Obj := { cls := Value.type "list", data := Data.seq #[Value.int 14 337, Value.int 9 338, Value.int 4 339, Value.int 1 340, Value.int 2 341, Value.int 16 342, Value.int 10 343, Value.int 16 344, Value.int 13 345, Value.int 0 346, Value.int 7 347, Value.int 7 348, Value.int 16 349, Value.int 13 350, Value.int 16 351, Value.int 10 352, Value.int 15 353, Value.int 18 354, Value.int 5 355, Value.int 16 356, Value.int 10 357, Value.int 15 358, Value.int 13 359, Value.int 11 360, Value.int 16 361, Value.int 13 362, Value.int 5 363, Value.int 5 364, Value.int 0 365, Value.int 16 366, Value.int 10 367, Value.int 1 368, Value.int 15 369, Value.int 2 370, Value.int 0 371, Value.int 1 372] }
noncomputable def z60 : Obj := { cls := Value.type "tuple", data := Data.seq #[Value.none] }
noncomputable def z61 : Obj := { cls := Value.type "tuple", data := Data.seq #[Value.int 14 0, Value.int 9 0, Value.int 4 0, Value.int 1 0, Value.int 2 0, Value.int 16 0, Value.int 10 0, Value.int 16 0, Value.int 13 0, Value.int 0 0, Value.int 7 0, Value.int 7 0, Value.int 16 0, Value.int 13 0, Value.int 16 0, Value.int 10 0, Value.int 15 0, Value.int 18 0, Value.int 5 0, Value.int 16 0, Value.int 10 0, Value.int 15 0, Value.int 13 0, Value.int 11 0, Value.int 16 0, Value.int 13 0, Value.int 5 0, Value.int 5 0, Value.int 0 0, Value.int 16 0, Value.int 10 0, Value.int 1 0, Value.int 15 0, Value.int 2 0, Value.int 0 0, Value.int 1 0] }
noncomputable def z62 : Obj := { cls := Value.type "re.Pattern", data := Data.fields #[Value.str (Str.ofString "(?:\\r\\n|\\n|\\r(?!\\n))") 335, Value.int 32 374, Value.int 0 0, Value.none, Value.none, Value.ref 61, Value.int 0 0] }
noncomputable def z65 : Obj := { cls := Value.type "tuple", data := Data.seq #[Value.str (Str.ofString "data") 381] }
noncomputable def z68 : Obj := { cls := Value.type "code", data := Data.fields #[Value.str (Str.ofString "quotedata") 378, Value.str (Str.ofString "quotedata") 379, Value.str (Str.ofString "/claim/cut.py") 380, Value.int 49 0, Value.int 1 0, Value.int 0 0, Value.int 0 0, Value.int 3 0, Value.ref 63, Value.bool true, Value.int 276 0, Value.ref 64, Value.none, Value.ref 65, Value.ref 66, Value.ref 67, Value.int 382 0, Value.int 49 0, Value.str (Str.ofString "/claim/cut.py") 383] }
noncomputable def T_p8 (P : Params) : BT := (.node (boot_o_0 P) (.node (z1 P) (.node (z3v1 P) (.node { cls := Value.type "tuple", data := Data.seq #[] } (.node { cls := Value.type "tuple", data := Data.seq #[] } (.node z31 (.node { cls := Value.type "tuple", data := Data.seq #[] } .nil .nil) .nil) (.node { cls := Value.none, data := Data.fields #[] } .nil .nil)) (.node z23 (.node { cls := Value.type "tuple", data := Data.seq #[] } .nil .nil) (.node z55 .nil .nil))) (.node (z11v1 P) (.node { cls := Value.type "list", data := Data.seq #[] } (.node { cls := Value.type "tuple", data := Data.seq #[] } (.node (fnC 9) .nil .nil) .nil) (.node z51 .nil .nil)) (.node z27 (.node (fnC 3) .nil .nil) (.node { cls := Value.type "dict", data := Data.dict #[] } .nil .nil)))) (.node { cls := Value.type "module", dict := some 3 } (.node (boot_o_9 P) (.node z17 (.node { cls := Value.none, data := Data.fields #[] } (.node z65 .nil .nil) .nil) (.node { cls := Value.type "tuple", data := Data.seq #[] } .nil .nil)) (.node z25 (.node z41 .nil .nil) (.node z57 .nil .nil))) (.node (z13 P) (.node (z21 P) (.node z37 (.node (fnO 9 (.str (Str.ofString "cpy313.smtplib") 316) 68) .nil .nil) .nil) (.node z53 .nil .nil)) (.node z29v1 (.node (fnO 3 (.str (Str.ofString "cpy313.email.utils") 282) 44) .nil .nil) (.node z61 .nil .nil))))) (.node (z2 P) (.node { cls := Value.type "module", dict := some 0 } (.node { cls := Value.none, data := Data.fields #[] } (.node z16 (.node { cls := Value.type "tuple", data := Data.seq #[] } (.node { cls := Value.none, data := Data.fields #[] } .nil .nil) .nil) (.node z48 .nil .nil)) (.node z24 (.node { cls := Value.none, data := Data.fields #[] } .nil .nil) (.node z56 .nil .nil))) (.node { cls := Value.type "module", dict := some 11 } (.node (z20 P) (.node (fnC 2) (.node z68 .nil .nil) .nil) (.node (fnO 4 (.str (Str.ofString "cpy313.email.utils") 282) 51) .nil .nil)) (.node { cls := Value.type "tuple", data := Data.seq #[] } (.node z44 .nil .nil) (.node z60 .nil .nil)))) (.node { cls := Value.type "dict", data := Data.dict #[] } (.node (boot_o_10 P) (.node z18 (.node z34 (.node { cls := Value.type "tuple", data := Data.seq #[] } .nil .nil) .nil) (.node (fnC 4) .nil .nil)) (.node { cls := Value.ref 22, dict := some 20 } (.node { cls := Value.type "tuple", data := Data.seq #[] } .nil .nil) (.node z58 .nil .nil))) (.node z14 (.node z22 (.node (fnO 2 (.str (Str.ofString "cpy313.email.utils") 282) 37) .nil .nil) (.node { cls := Value.type "dict", data := Data.dict #[] } .nil .nil)) (.node z30 (.node { cls := Value.type "tuple", data := Data.seq #[] } .nil .nil) (.node z62 .nil .nil))))))
noncomputable abbrev S_p8 (w : World) (os : OsState) : SharedT := ⟨T_p8 w.params, 70, {}, #[], {}, 385, os⟩
noncomputable def z3v2 (P : Params) : Obj := { cls := Value.type "dict", data := Data.dict #[en P "__name__" 165 (Value.str (Str.ofString "cpy313.token") 385), en P "__doc__" 166 (Value.none), en P "__package__" 167 (Value.none), en P "__loader__" 168 (Value.builtin "__main__.__loader__#opaque"), en P "__spec__" 169 (Value.none), en P "__annotations__" 170 (Value.ref 6), en P "__builtins__" 171 (Value.ref 4), en P "__file__" 173 (Value.str (Str.ofString "/claim/cut.py") 172), en P "__cached__" 174 (Value.none), en P "_sre" 275 (Value.ref 12), en P "_iter_escaped_chars" 293 (Value.ref 38), en P "_strip_quoted_realnames" 305 (Value.ref 45), en P "_check_parenthesis" 315 (Value.ref 52), en P "_twin_re_1" 333 (Value.ref 57), en P "_twin_re_2" 375 (Value.ref 62), en P "CRLF" 377 (Value.str (Str.ofString "\x0d\n") 376), en P "quotedata" 384 (Value.ref 69), en P "ENDMARKER" 388 (Value.int 0 387), en P "LPAR" 390 (Value.int 7 389), en P "RPAR" 392 (Value.int 8 391), en P "LSQB" 394 (Value.int 9 393), en P "RSQB" 396 (Value.int 10 395), en P "COLON" 398 (Value.int 11 397), en P "COMMA" 400 (Value.int 12 399), en P "SEMI" 402 (Value.int 13 401), en P "PLUS" 404 (Value.int 14 403), en P "MINUS" 406 (Value.int 15 405), en P "STAR" 408 (Value.int 16 407), en P "SLASH" 410 (Value.int 17 409), en P "VBAR" 412 (Value.int 18 411), en P "AMPER" 414 (Value.int 19 413), en P "LESS" 416 (Value.int 20 415), en P "GREATER" 418 (Value.int 21 417), en P "EQUAL" 420 (Value.int 22 419), en P "DOT" 422 (Value.int 23 421), en P "PERCENT" 424 (Value.int 24 423), en P "LBRACE" 426 (Value.int 25 425), en P "RBRACE" 428 (Value.int 26 427)] 38 }
noncomputable def T_p30 (P : Params) : BT := (.node (boot_o_0 P) (.node (z1 P) (.node (z3v2 P) (.node { cls := Value.type "tuple", data := Data.seq #[] } (.node { cls := Value.type "tuple", data := Data.seq #[] } (.node z31 (.node { cls := Value.type "tuple", data := Data.seq #[] } .nil .nil) .nil) (.node { cls := Value.none, data := Data.fields #[] } .nil .nil)) (.node z23 (.node { cls := Value.type "tuple", data := Data.seq #[] } .nil .nil) (.node z55 .nil .nil))) (.node (z11v1 P) (.node { cls := Value.type "list", data := Data.seq #[] } (.node { cls := Value.type "tuple", data := Data.seq #[] } (.node (fnC 9) .nil .nil) .nil) (.node z51 .nil .nil)) (.node z27 (.node (fnC 3) .nil .nil) (.node { cls := Value.type "dict", data := Data.dict #[] } .nil .nil)))) (.node { cls := Value.type "module", dict := some 3 } (.node (boot_o_9 P) (.node z17 (.node { cls := Value.none, data := Data.fields #[] } (.node z65 .nil .nil) .nil) (.node { cls := Value.type "tuple", data := Data.seq #[] } .nil .nil)) (.node z25 (.node z41 .nil .nil) (.node z57 .nil .nil))) (.node (z13 P) (.node (z21 P) (.node z37 (.node (fnO 9 (.str (Str.ofString "cpy313.smtplib") 316) 68) .nil .nil) .nil) (.node z53 .nil .nil)) (.node z29v1 (.node (fnO 3 (.str (Str.ofString "cpy313.email.utils") 282) 44) .nil .nil) (.node z61 .nil .nil))))) (.node (z2 P) (.node { cls := Value.type "module", dict := some 0 } (.node { cls := Value.none, data := Data.fields #[] } (.node z16 (.node { cls := Value.type "tuple", data := Data.seq #[] } (.node { cls := Value.none, data := Data.fields #[] } .nil .nil) .nil) (.node z48 .nil .nil)) (.node z24 (.node { cls := Value.none, data := Data.fields #[] } .nil .nil) (.node z56 .nil .nil))) (.node { cls := Value.type "module", dict := some 11 } (.node (z20 P) (.node (fnC 2) (.node z68 .nil .nil) .nil) (.node (fnO 4 (.str (Str.ofString "cpy313.email.utils") 282) 51) .nil .nil)) (.node { cls := Value.type "tuple", data := Data.seq #[] } (.node z44 .nil .nil) (.node z60 .nil .nil)))) (.node { cls := Value.type "dict", data := Data.dict #[] } (.node (boot_o_10 P) (.node z18 (.node z34 (.node { cls := Value.type "tuple", data := Data.seq #[] } .nil .nil) .nil) (.node (fnC 4) .nil .nil)) (.node { cls := Value.ref 22, dict := some 20 } (.node { cls := Value.type "tuple", data := Data.seq #[] } .nil .nil) (.node z58 .nil .nil))) (.node z14 (.node z22 (.node (fnO 2 (.str (Str.ofString "cpy313.email.utils") 282) 37) .nil .nil) (.node { cls := Value.type "dict", data := Data.dict #[] } .nil .nil)) (.node z30 (.node { cls := Value.type "tuple", data := Data.seq #[] } .nil .nil) (.node z62 .nil .nil))))))
noncomputable abbrev S_p30 (w : World) (os : OsState) : SharedT := ⟨T_p30 w.params, 70, {}, #[], {}, 429, os⟩
noncomputable def z3v3 (P : Params) : Obj := { cls := Value.type "dict", data := Data.dict #[en P "__name__" 165 (Value.str (Str.ofString "cpy313.token") 385), en P "__doc__" 166 (Value.none), en P "__package__" 167 (Value.none), en P "__loader__" 168 (Value.builtin "__main__.__loader__#opaque"), en P "__spec__" 169 (Value.none), en P "__annotations__" 170 (Value.ref 6), en P "__builtins__" 171 (Value.ref 4), en P "__file__" 173 (Value.str (Str.ofString "/claim/cut.py") 172), en P "__cached__" 174 (Value.none), en P "_sre" 275 (Value.ref 12), en P "_iter_escaped_chars" 293 (Value.ref 38), en P "_strip_quoted_realnames" 305 (Value.ref 45), en P "_check_parenthesis" 315 (Value.ref 52), en P "_twin_re_1" 333 (Value.ref 57), en P "_twin_re_2" 375 (Value.ref 62), en P "CRLF" 377 (Value.str (Str.ofString "\x0d\n") 376), en P "quotedata" 384 (Value.ref 69), en P "ENDMARKER" 388 (Value.int 0 387), en P "LPAR" 390 (Value.int 7 389), en P "RPAR" 392 (Value.int 8 391), en P "LSQB" 394 (Value.int 9 393), en P "RSQB" 396 (Value.int 10 395), en P "COLON" 398 (Value.int 11 397), en P "COMMA" 400 (Value.int 12 399), en P "SEMI" 402 (Value.int 13 401), en P "PLUS" 404 (Value.int 14 403), en P "MINUS" 406 (Value.int 15 405), en P "STAR" 408 (Value.int 16 407), en P "SLASH" 410 (Value.int 17 409), en P "VBAR" 412 (Value.int 18 411), en P "AMPER" 414 (Value.int 19 413), en P "LESS" 416 (Value.int 20 415), en P "GREATER" 418 (Value.int 21 417), en P "EQUAL" 420 (Value.int 22 419), en P "DOT" 422 (Value.int 23 421), en P "PERCENT" 424 (Value.int 24 423), en P "LBRACE" 426 (Value.int 25 425), en P "RBRACE" 428 (Value.int 26 427), en P "EQEQUAL" 430 (Value.int 27 429), en P "NOTEQUAL" 432 (Value.int 28 431), en P "LESSEQUAL" 434 (Value.int 29 433), en P "GREATEREQUAL" 436 (Value.int 30 435), en P "TILDE" 438 (Value.int 31 437), en P "CIRCUMFLEX" 440 (Value.int 32 439), en P "LEFTSHIFT" 442 (Value.int 33 441), en P "RIGHTSHIFT" 444 (Value.int 34 443), en P "DOUBLESTAR" 446 (Value.int 35 445), en P "PLUSEQUAL" 448 (Value.int 36 447), en P "MINEQUAL" 450 (Value.int 37 449), en P "STAREQUAL" 452 (Value.int 38 451), en P "SLASHEQUAL" 454 (Value.int 39 453), en P "PERCENTEQUAL" 456 (Value.int 40 455), en P "AMPEREQUAL" 458 (Value.int 41 457), en P "VBAREQUAL" 460 (Value.int 42 459), en P "CIRCUMFLEXEQUAL" 462 (Value.int 43 461), en P "LEFTSHIFTEQUAL" 464 (Value.int 44 463), en P "RIGHTSHIFTEQUAL" 466 (Value.int 45 465), en P "DOUBLESTAREQUAL" 468 (Value.int 46 467), en P "DOUBLESLASH" 470 (Value.int 47 469), en P "DOUBLESLASHEQUAL" 472 (Value.int 48 471), en P "AT" 474 (Value.int 49 473), en P "ATEQUAL" 476 (Value.int 50 475), en P "RARROW" 478 (Value.int 51 477), en P "ELLIPSIS" 480 (Value.int 52 479), en P "COLONEQUAL" 482 (Value.int 53 481), en P "EXCLAMATION" 484 (Value.int 54 483), en P "NT_OFFSET" 486 (Value.int 256 485)] 67 }
noncomputable def T_p59 (P : Params) : BT := (.node (boot_o_0 P) (.node (z1 P) (.node (z3v3 P) (.node { cls := Value.type "tuple", data := Data.seq #[] } (.node { cls := Value.type "tuple", data := Data.seq #[] } (.node z31 (.node { cls := Value.type "tuple", data := Data.seq #[] } .nil .nil) .nil) (.node { cls := Value.none, data := Data.fields #[] } .nil .nil)) (.node z23 (.node { cls := Value.type "tuple", data := Data.seq #[] } .nil .nil) (.node z55 .nil .nil))) (.node (z11v1 P) (.node { cls := Value.type "list", data := Data.seq #[] } (.node { cls := Value.type "tuple", data := Data.seq #[] } (.node (fnC 9) .nil .nil) .nil) (.node z51 .nil .nil)) (.node z27 (.node (fnC 3) .nil .nil) (.node { cls := Value.type "dict", data := Data.dict #[] } .nil .nil)))) (.node { cls := Value.type "module", dict := some 3 } (.node (boot_o_9 P) (.node z17 (.node { cls := Value.none, data := Data.fields #[] } (.node z65 .nil .nil) .nil) (.node { cls := Value.type "tuple", data := Data.seq #[] } .nil .nil)) (.node z25 (.node z41 .nil .nil) (.node z57 .nil .nil))) (.node (z13 P) (.node (z21 P) (.node z37 (.node (fnO 9 (.str (Str.ofString "cpy313.smtplib") 316) 68) .nil .nil) .nil) (.node z53 .nil .nil)) (.node z29v1 (.node (fnO 3 (.str (Str.ofString "cpy313.email.utils") 282) 44) .nil .nil) (.node z61 .nil .nil))))) (.node (z2 P) (.node { cls := Value.type "module", dict := some 0 } (.node { cls := Value.none, data := Data.fields #[] } (.node z16 (.node { cls := Value.type "tuple", data := Data.seq #[] } (.node { cls := Value.none, data := Data.fields #[] } .nil .nil) .nil) (.node z48 .nil .nil)) (.node z24 (.node { cls := Value.none, data := Data.fields #[] } .nil .nil) (.node z56 .nil .nil))) (.node { cls := Value.type "module", dict := some 11 } (.node (z20 P) (.node (fnC 2) (.node z68 .nil .nil) .nil) (.node (fnO 4 (.str (Str.ofString "cpy313.email.utils") 282) 51) .nil .nil)) (.node { cls := Value.type "tuple", data := Data.seq #[] } (.node z44 .nil .nil) (.node z60 .nil .nil)))) (.node { cls := Value.type "dict", data := Data.dict #[] } (.node (boot_o_10 P) (.node z18 (.node z34 (.node { cls := Value.type "tuple", data := Data.seq #[] } .nil .nil) .nil) (.node (fnC 4) .nil .nil)) (.node { cls := Value.ref 22, dict := some 20 } (.node { cls := Value.type "tuple", data := Data.seq #[] } .nil .nil) (.node z58 .nil .nil))) (.node z14 (.node z22 (.node (fnO 2 (.str (Str.ofString "cpy313.email.utils") 282) 37) .nil .nil) (.node { cls := Value.type "dict", data := Data.dict #[] } .nil .nil)) (.node z30 (.node { cls := Value.type "tuple", data := Data.seq #[] } .nil .nil) (.node z62 .nil .nil))))))
noncomputable abbrev S_p59 (w : World) (os : OsState) : SharedT := ⟨T_p59 w.params, 70, {}, #[], {}, 487, os⟩
noncomputable def z3v4 (P : Params) : Obj := { cls := Value.type "dict", data := Data.dict #[en P "__name__" 165 (Value.str (Str.ofString "cpy313.token") 385), en P "__doc__" 166 (Value.none), en P "__package__" 167 (Value.none), en P "__loader__" 168 (Value.builtin "__main__.__loader__#opaque"), en P "__spec__" 169 (Value.none), en P "__annotations__" 170 (Value.ref 6), en P "__builtins__" 171 (Value.ref 4), en P "__file__" 173 (Value.str (Str.ofString "/claim/cut.py") 172), en P "__cached__" 174 (Value.none), en P "_sre" 275 (Value.ref 12), en P "_iter_escaped_chars" 293 (Value.ref 38), en P "_strip_quoted_realnames" 305 (Value.ref 45), en P "_check_parenthesis" 315 (Value.ref 52), en P "_twin_re_1" 333 (Value.ref 57), en P "_twin_re_2" 375 (Value.ref 62), en P "CRLF" 377 (Value.str (Str.ofString "\x0d\n") 376), en P "quotedata" 384 (Value.ref 69), en P "ENDMARKER" 388 (Value.int 0 387), en P "LPAR" 390 (Value.int 7 389), en P "RPAR" 392 (Value.int 8 391), en P "LSQB" 394 (Value.int 9 393), en P "RSQB" 396 (Value.int 10 395), en P "COLON" 398 (Value.int 11 397), en P "COMMA" 400 (Value.int 12 399), en P "SEMI" 402 (Value.int 13 401), en P "PLUS" 404 (Value.int 14 403), en P "MINUS" 406 (Value.int 15 405), en P "STAR" 408 (Value.int 16 407), en P "SLASH" 410 (Value.int 17 409), en P "VBAR" 412 (Value.int 18 411), en P "AMPER" 414 (Value.int 19 413), en P "LESS" 416 (Value.int 20 415), en P "GREATER" 418 (Value.int 21 417), en P "EQUAL" 420 (Value.int 22 419), en P "DOT" 422 (Value.int 23 421), en P "PERCENT" 424 (Value.int 24 423), en P "LBRACE" 426 (Value.int 25 425), en P "RBRACE" 428 (Value.int 26 427), en P "EQEQUAL" 430 (Value.int 27 429), en P "NOTEQUAL" 432 (Value.int 28 431), en P "LESSEQUAL" 434 (Value.int 29 433), en P "GREATEREQUAL" 436 (Value.int 30 435), en P "TILDE" 438 (Value.int 31 437), en P "CIRCUMFLEX" 440 (Value.int 32 439), en P "LEFTSHIFT" 442 (Value.int 33 441), en P "RIGHTSHIFT" 444 (Value.int 34 443), en P "DOUBLESTAR" 446 (Value.int 35 445), en P "PLUSEQUAL" 448 (Value.int 36 447), en P "MINEQUAL" 450 (Value.int 37 449), en P "STAREQUAL" 452 (Value.int 38 451), en P "SLASHEQUAL" 454 (Value.int 39 453), en P "PERCENTEQUAL" 456 (Value.int 40 455), en P "AMPEREQUAL" 458 (Value.int 41 457), en P "VBAREQUAL" 460 (Value.int 42 459), en P "CIRCUMFLEXEQUAL" 462 (Value.int 43 461), en P "LEFTSHIFTEQUAL" 464 (Value.int 44 463), en P "RIGHTSHIFTEQUAL" 466 (Value.int 45 465), en P "DOUBLESTAREQUAL" 468 (Value.int 46 467), en P "DOUBLESLASH" 470 (Value.int 47 469), en P "DOUBLESLASHEQUAL" 472 (Value.int 48 471), en P "AT" 474 (Value.int 49 473), en P "ATEQUAL" 476 (Value.int 50 475), en P "RARROW" 478 (Value.int 51 477), en P "ELLIPSIS" 480 (Value.int 52 479), en P "COLONEQUAL" 482 (Value.int 53 481), en P "EXCLAMATION" 484 (Value.int 54 483), en P "NT_OFFSET" 486 (Value.int 256 485), en P "EXACT_TOKEN_TYPES" 583 (Value.ref 70)] 68 }
noncomputable def z70 (P : Params) : Obj := { cls := Value.type "dict", data := Data.dict #[en P "!" 487 (Value.int 54 483), en P "!=" 489 (Value.int 28 431), en P "%" 491 (Value.int 24 423), en P "%=" 493 (Value.int 40 455), en P "&" 495 (Value.int 19 413), en P "&=" 497 (Value.int 41 457), en P "(" 499 (Value.int 7 389), en P ")" 501 (Value.int 8 391), en P "*" 503 (Value.int 16 407), en P "**" 505 (Value.int 35 445), en P "**=" 507 (Value.int 46 467), en P "*=" 509 (Value.int 38 451), en P "+" 511 (Value.int 14 403), en P "+=" 513 (Value.int 36 447), en P "," 515 (Value.int 12 399), en P "-" 517 (Value.int 15 405), en P "-=" 519 (Value.int 37 449), en P "->" 521 (Value.int 51 477), en P "." 523 (Value.int 23 421), en P "..." 525 (Value.int 52 479), en P "/" 527 (Value.int 17 409), en P "//" 529 (Value.int 47 469), en P "//=" 531 (Value.int 48 471), en P "/=" 533 (Value.int 39 453), en P ":" 535 (Value.int 11 397), en P ":=" 537 (Value.int 53 481), en P ";" 539 (Value.int 13 401), en P "<" 541 (Value.int 20 415), en P "<<" 543 (Value.int 33 441), en P "<<=" 545 (Value.int 44 463), en P "<=" 547 (Value.int 29 433), en P "=" 549 (Value.int 22 419), en P "==" 551 (Value.int 27 429), en P ">" 553 (Value.int 21 417), en P ">=" 555 (Value.int 30 435), en P ">>" 556 (Value.int 34 443), en P ">>=" 557 (Value.int 45 465), en P "@" 558 (Value.int 49 473), en P "@=" 559 (Value.int 50 475), en P "[" 560 (Value.int 9 393), en P "]" 561 (Value.int 10 395), en P "^" 562 (Value.int 32 439), en P "^=" 563 (Value.int 43 461), en P "{" 564 (Value.int 25 425), en P "|" 565 (Value.int 18 411), en P "|=" 566 (Value.int 42 459), en P "}" 567 (Value.int 26 427), en P "~" 568 (Value.int 31 437)] 48 }
noncomputable def z71 (P : Params) : Obj := { cls := Value.type "dict", data := Data.dict #[en P "->" 521 (Value.int 51 477), en P "." 523 (Value.int 23 421), en P "..." 525 (Value.int 52 479), en P "/" 527 (Value.int 17 409), en P "//" 529 (Value.int 47 469), en P "//=" 531 (Value.int 48 471), en P "/=" 533 (Value.int 39 453), en P ":" 535 (Value.int 11 397), en P ":=" 537 (Value.int 53 481), en P ";" 539 (Value.int 13 401), en P "<" 541 (Value.int 20 415), en P "<<" 543 (Value.int 33 441), en P "<<=" 545 (Value.int 44 463), en P "<=" 547 (Value.int 29 433), en P "=" 549 (Value.int 22 419), en P "==" 551 (Value.int 27 429), en P ">" 553 (Value.int 21 417)] 17 }
noncomputable def z72 (P : Params) : Obj := { cls := Value.type "dict", data := Data.dict #[en P ">=" 555 (Value.int 30 435), en P ">>" 556 (Value.int 34 443), en P ">>=" 557 (Value.int 45 465), en P "@" 558 (Value.int 49 473), en P "@=" 559 (Value.int 50 475), en P "[" 560 (Value.int 9 393), en P "]" 561 (Value.int 10 395), en P "^" 562 (Value.int 32 439), en P "^=" 563 (Value.int 43 461), en P "{" 564 (Value.int 25 425), en P "|" 565 (Value.int 18 411), en P "|=" 566 (Value.int 42 459), en P "}" 567 (Value.int 26 427), en P "~" 568 (Value.int 31 437)] 14 }
noncomputable def T_p60 (P : Params) : BT := (.node (boot_o_0 P) (.node (z1 P) (.node (z3v4 P) (.node { cls := Value.type "tuple", data := Data.seq #[] } (.node { cls := Value.type "tuple", data := Data.seq #[] } (.node z31 (.node { cls := Value.type "tuple", data := Data.seq #[] } .nil .nil) .nil) (.node { cls := Value.none, data := Data.fields #[] } .nil .nil)) (.node z23 (.node { cls := Value.type "tuple", data := Data.seq #[] } (.node (z71 P) .nil .nil) .nil) (.node z55 .nil .nil))) (.node (z11v1 P) (.node { cls := Value.type "list", data := Data.seq #[] } (.node { cls := Value.type "tuple", data := Data.seq #[] } (.node (fnC 9) .nil .nil) .nil) (.node z51 .nil .nil)) (.node z27 (.node (fnC 3) .nil .nil) (.node { cls := Value.type "dict", data := Data.dict #[] } .nil .nil)))) (.node { cls := Value.type "module", dict := some 3 } (.node (boot_o_9 P) (.node z17 (.node { cls := Value.none, data := Data.fields #[] } (.node z65 .nil .nil) .nil) (.node { cls := Value.type "tuple", data := Data.seq #[] } .nil .nil)) (.node z25 (.node z41 .nil .nil) (.node z57 .nil .nil))) (.node (z13 P) (.node (z21 P) (.node z37 (.node (fnO 9 (.str (Str.ofString "cpy313.smtplib") 316) 68) .nil .nil) .nil) (.node z53 .nil .nil)) (.node z29v1 (.node (fnO 3 (.str (Str.ofString "cpy313.email.utils") 282) 44) .nil .nil) (.node z61 .nil .nil))))) (.node (z2 P) (.node { cls := Value.type "module", dict := some 0 } (.node { cls := Value.none, data := Data.fields #[] } (.node z16 (.node { cls := Value.type "tuple", data := Data.seq #[] } (.node { cls := Value.none, data := Data.fields #[] } .nil .nil) .nil) (.node z48 .nil .nil)) (.node z24 (.node { cls := Value.none, data := Data.fields #[] } (.node (z72 P) .nil .nil) .nil) (.node z56 .nil .nil))) (.node { cls := Value.type "module", dict := some 11 } (.node (z20 P) (.node (fnC 2) (.node z68 .nil .nil) .nil) (.node (fnO 4 (.str (Str.ofString "cpy313.email.utils") 282) 51) .nil .nil)) (.node { cls := Value.type "tuple", data := Data.seq #[] } (.node z44 .nil .nil) (.node z60 .nil .nil)))) (.node { cls := Value.type "dict", data := Data.dict #[] } (.node (boot_o_10 P) (.node z18 (.node z34 (.node { cls := Value.type "tuple", data := Data.seq #[] } .nil .nil) .nil) (.node (fnC 4) .nil .nil)) (.node { cls := Value.ref 22, dict := some 20 } (.node { cls := Value.type "tuple", data := Data.seq #[] } .nil .nil) (.node z58 .nil .nil))) (.node z14 (.node z22 (.node (fnO 2 (.str (Str.ofString "cpy313.email.utils") 282) 37) (.node (z70 P) .nil .nil) .nil) (.node { cls := Value.type "dict", data := Data.dict #[] } .nil .nil)) (.node z30 (.node { cls := Value.type "tuple", data := Data.seq #[] } .nil .nil) (.node z62 .nil .nil))))))
noncomputable abbrev S_p60 (w : World) (os : OsState) : SharedT := ⟨T_p60 w.params, 73, {}, #[], {}, 584, os⟩
noncomputable def z3v5 (P : Params) : Obj := { cls := Value.type "dict", data := Data.dict #[en P "__name__" 165 (Value.str (Str.ofString "law_rs0110_01") 598), en P "__doc__" 166 (Value.none), en P "__package__" 167 (Value.none), en P "__loader__" 168 (Value.builtin "__main__.__loader__#opaque"), en P "__spec__" 169 (Value.none), en P "__annotations__" 170 (Value.ref 6), en P "__builtins__" 171 (Value.ref 4), en P "__file__" 173 (Value.str (Str.ofString "/claim/cut.py") 172), en P "__cached__" 174 (Value.none), en P "_sre" 275 (Value.ref 12), en P "_iter_escaped_chars" 293 (Value.ref 38), en P "_strip_quoted_realnames" 305 (Value.ref 45), en P "_check_parenthesis" 315 (Value.ref 52), en P "_twin_re_1" 333 (Value.ref 57), en P "_twin_re_2" 375 (Value.ref 62), en P "CRLF" 377 (Value.str (Str.ofString "\x0d\n") 376), en P "quotedata" 384 (Value.ref 69), en P "ENDMARKER" 388 (Value.int 0 387), en P "LPAR" 390 (Value.int 7 389), en P "RPAR" 392 (Value.int 8 391), en P "LSQB" 394 (Value.int 9 393), en P "RSQB" 396 (Value.int 10 395), en P "COLON" 398 (Value.int 11 397), en P "COMMA" 400 (Value.int 12 399), en P "SEMI" 402 (Value.int 13 401), en P "PLUS" 404 (Value.int 14 403), en P "MINUS" 406 (Value.int 15 405), en P "STAR" 408 (Value.int 16 407), en P "SLASH" 410 (Value.int 17 409), en P "VBAR" 412 (Value.int 18 411), en P "AMPER" 414 (Value.int 19 413), en P "LESS" 416 (Value.int 20 415), en P "GREATER" 418 (Value.int 21 417), en P "EQUAL" 420 (Value.int 22 419), en P "DOT" 422 (Value.int 23 421), en P "PERCENT" 424 (Value.int 24 423), en P "LBRACE" 426 (Value.int 25 425), en P "RBRACE" 428 (Value.int 26 427), en P "EQEQUAL" 430 (Value.int 27 429), en P "NOTEQUAL" 432 (Value.int 28 431), en P "LESSEQUAL" 434 (Value.int 29 433), en P "GREATEREQUAL" 436 (Value.int 30 435), en P "TILDE" 438 (Value.int 31 437), en P "CIRCUMFLEX" 440 (Value.int 32 439), en P "LEFTSHIFT" 442 (Value.int 33 441), en P "RIGHTSHIFT" 444 (Value.int 34 443), en P "DOUBLESTAR" 446 (Value.int 35 445), en P "PLUSEQUAL" 448 (Value.int 36 447), en P "MINEQUAL" 450 (Value.int 37 449), en P "STAREQUAL" 452 (Value.int 38 451), en P "SLASHEQUAL" 454 (Value.int 39 453), en P "PERCENTEQUAL" 456 (Value.int 40 455), en P "AMPEREQUAL" 458 (Value.int 41 457), en P "VBAREQUAL" 460 (Value.int 42 459), en P "CIRCUMFLEXEQUAL" 462 (Value.int 43 461), en P "LEFTSHIFTEQUAL" 464 (Value.int 44 463), en P "RIGHTSHIFTEQUAL" 466 (Value.int 45 465), en P "DOUBLESTAREQUAL" 468 (Value.int 46 467), en P "DOUBLESLASH" 470 (Value.int 47 469), en P "DOUBLESLASHEQUAL" 472 (Value.int 48 471), en P "AT" 474 (Value.int 49 473), en P "ATEQUAL" 476 (Value.int 50 475), en P "RARROW" 478 (Value.int 51 477), en P "ELLIPSIS" 480 (Value.int 52 479), en P "COLONEQUAL" 482 (Value.int 53 481), en P "EXCLAMATION" 484 (Value.int 54 483), en P "NT_OFFSET" 486 (Value.int 256 485), en P "EXACT_TOKEN_TYPES" 583 (Value.ref 70), en P "ISTERMINAL" 590 (Value.ref 79), en P "ISEOF" 597 (Value.ref 86), en P "_law_grown" 615 (Value.ref 93), en P "_law_numbers" 621 (Value.ref 98), en P "_law_mates" 627 (Value.ref 103), en P "law" 633 (Value.ref 108)] 74 }
noncomputable def z29v2 : Obj := { cls := Value.none, data := Data.fields #[Value.int 3 0, Value.int 0 0, Value.ref 37, Value.int 16 0, Value.int 0 0, Value.ref 44, Value.int 34 0, Value.int 0 0, Value.ref 51, Value.int 49 0, Value.int 0 0, Value.ref 68, Value.int 103 0, Value.int 0 0, Value.ref 78, Value.int 105 0, Value.int 0 0, Value.ref 85, Value.int 108 0, Value.int 0 0, Value.ref 92, Value.int 122 0, Value.int 0 0, Value.ref 97, Value.int 130 0, Value.int 0 0, Value.ref 102, Value.int 146 0, Value.int 0 0, Value.ref 107] }
noncomputable def z75 : Obj := { cls := Value.type "tuple", data := Data.seq #[Value.str (Str.ofString "x") 587] }
noncomputable def z78 : Obj := { cls := Value.type "code", data := Data.fields #[Value.str (Str.ofString "ISTERMINAL") 584, Value.str (Str.ofString "ISTERMINAL") 585, Value.str (Str.ofString "/claim/cut.py") 586, Value.int 103 0, Value.int 1 0, Value.int 0 0, Value.int 0 0, Value.int 3 0, Value.ref 73, Value.bool true, Value.int 276 0, Value.ref 74, Value.none, Value.ref 75, Value.ref 76, Value.ref 77, Value.int 588 0, Value.int 103 0, Value.str (Str.ofString "/claim/cut.py") 589] }
noncomputable def z82 : Obj := { cls := Value.type "tuple", data := Data.seq #[Value.str (Str.ofString "x") 594] }
noncomputable def z85 : Obj := { cls := Value.type "code", data := Data.fields #[Value.str (Str.ofString "ISEOF") 591, Value.str (Str.ofString "ISEOF") 592, Value.str (Str.ofString "/claim/cut.py") 593, Value.int 105 0, Value.int 1 0, Value.int 0 0, Value.int 0 0, Value.int 3 0, Value.ref 80, Value.bool true, Value.int 276 0, Value.ref 81, Value.none, Value.ref 82, Value.ref 83, Value.ref 84, Value.int 595 0, Value.int 105 0, Value.str (Str.ofString "/claim/cut.py") 596] }
noncomputable def z89 : Obj := { cls := Value.type "tuple", data := Data.seq #[Value.str (Str.ofString "rows") 603, Value.str (Str.ofString "e") 604, Value.str (Str.ofString "x") 605, Value.str (Str.ofString "hidden") 606, Value.str (Str.ofString "ends") 607, Value.str (Str.ofString "typed") 608, Value.str (Str.ofString "k") 609, Value.str (Str.ofString "read") 610, Value.str (Str.ofString "behind") 611, Value.str (Str.ofString "dots") 612] }
noncomputable def z92 : Obj := { cls := Value.type "code", data := Data.fields #[Value.str (Str.ofString "_law_grown") 600, Value.str (Str.ofString "_law_grown") 601, Value.str (Str.ofString "/claim/cut.py") 602, Value.int 108 0, Value.int 3 0, Value.int 0 0, Value.int 0 0, Value.int 3 0, Value.ref 87, Value.bool true, Value.int 276 0, Value.ref 88, Value.none, Value.ref 89, Value.ref 90, Value.ref 91, Value.int 613 0, Value.int 108 0, Value.str (Str.ofString "/claim/cut.py") 614] }
noncomputable def z97 : Obj := { cls := Value.type "code", data := Data.fields #[Value.str (Str.ofString "_law_numbers") 616, Value.str (Str.ofString "_law_numbers") 617, Value.str (Str.ofString "/claim/cut.py") 618, Value.int 122 0, Value.int 1 0, Value.int 0 0, Value.int 0 0, Value.int 3 0, Value.ref 94, Value.bool true, Value.int 276 0, Value.ref 95, Value.none, Value.none, Value.none, Value.ref 96, Value.int 619 0, Value.int 122 0, Value.str (Str.ofString "/claim/cut.py") 620] }
noncomputable def z102 : Obj := { cls := Value.type "code", data := Data.fields #[Value.str (Str.ofString "_law_mates") 622, Value.str (Str.ofString "_law_mates") 623, Value.str (Str.ofString "/claim/cut.py") 624, Value.int 130 0, Value.int 1 0, Value.int 0 0, Value.int 0 0, Value.int 3 0, Value.ref 99, Value.bool true, Value.int 276 0, Value.ref 100, Value.none, Value.none, Value.none, Value.ref 101, Value.int 625 0, Value.int 130 0, Value.str (Str.ofString "/claim/cut.py") 626] }
noncomputable def z107 : Obj := { cls := Value.type "code", data := Data.fields #[Value.str (Str.ofString "law") 628, Value.str (Str.ofString "law") 629, Value.str (Str.ofString "/claim/cut.py") 630, Value.int 146 0, Value.int 1 0, Value.int 0 0, Value.int 0 0, Value.int 3 0, Value.ref 104, Value.bool true, Value.int 276 0, Value.ref 105, Value.none, Value.none, Value.none, Value.ref 106, Value.int 631 0, Value.int 146 0, Value.str (Str.ofString "/claim/cut.py") 632] }
noncomputable def T_p67 (P : Params) : BT := (.node (boot_o_0 P) (.node (z1 P) (.node (z3v5 P) (.node { cls := Value.type "tuple", data := Data.seq #[] } (.node { cls := Value.type "tuple", data := Data.seq #[] } (.node z31 (.node { cls := Value.type "tuple", data := Data.seq #[] } .nil .nil) (.node { cls := Value.none, data := Data.fields #[] } .nil .nil)) (.node { cls := Value.none, data := Data.fields #[] } (.node (fnO 62 (.str (Str.ofString "cpy313.token") 385) 78) .nil .nil) .nil)) (.node z23 (.node { cls := Value.type "tuple", data := Data.seq #[] } (.node (z71 P) .nil .nil) (.node (fnO 67 (.str (Str.ofString "law_rs0110_01") 598) 102) .nil .nil)) (.node z55 (.node { cls := Value.type "tuple", data := Data.seq #[] } .nil .nil) .nil))) (.node (z11v1 P) (.node { cls := Value.type "list", data := Data.seq #[] } (.node { cls := Value.type "tuple", data := Data.seq #[] } (.node (fnC 9) .nil .nil) (.node { cls := Value.type "tuple", data := Data.seq #[] } .nil .nil)) (.node z51 (.node { cls := Value.type "tuple", data := Data.seq #[] } .nil .nil) .nil)) (.node z27 (.node (fnC 3) (.node z75 .nil .nil) (.node z107 .nil .nil)) (.node { cls := Value.type "dict", data := Data.dict #[] } (.node (fnC 65) .nil .nil) .nil)))) (.node { cls := Value.type "module", dict := some 3 } (.node (boot_o_9 P) (.node z17 (.node { cls := Value.none, data := Data.fields #[] } (.node z65 .nil .nil) (.node z97 .nil .nil)) (.node { cls := Value.type "tuple", data := Data.seq #[] } (.node { cls := Value.none, data := Data.fields #[] } .nil .nil) .nil)) (.node z25 (.node z41 (.node { cls := Value.type "tuple", data := Data.seq #[] } .nil .nil) (.node { cls := Value.none, data := Data.fields #[] } .nil .nil)) (.node z57 (.node z89 .nil .nil) .nil))) (.node (z13 P) (.node (z21 P) (.node z37 (.node (fnO 9 (.str (Str.ofString "cpy313.smtplib") 316) 68) .nil .nil) (.node (fnC 67) .nil .nil)) (.node z53 (.node z85 .nil .nil) .nil)) (.node z29v2 (.node (fnO 3 (.str (Str.ofString "cpy313.email.utils") 282) 44) (.node (fnC 62) .nil .nil) .nil) (.node z61 (.node (fnO 65 (.str (Str.ofString "law_rs0110_01") 598) 92) .nil .nil) .nil))))) (.node (z2 P) (.node { cls := Value.type "module", dict := some 0 } (.node { cls := Value.none, data := Data.fields #[] } (.node z16 (.node { cls := Value.type "tuple", data := Data.seq #[] } (.node { cls := Value.none, data := Data.fields #[] } .nil .nil) (.node (fnC 66) .nil .nil)) (.node z48 (.node { cls := Value.type "tuple", data := Data.seq #[] } .nil .nil) .nil)) (.node z24 (.node { cls := Value.none, data := Data.fields #[] } (.node (z72 P) .nil .nil) (.node { cls := Value.type "tuple", data := Data.seq #[] } .nil .nil)) (.node z56 (.node { cls := Value.none, data := Data.fields #[] } .nil .nil) .nil))) (.node { cls := Value.type "module", dict := some 11 } (.node (z20 P) (.node (fnC 2) (.node z68 .nil .nil) (.node { cls := Value.none, data := Data.fields #[] } .nil .nil)) (.node (fnO 4 (.str (Str.ofString "cpy313.email.utils") 282) 51) (.node (fnC 63) .nil .nil) .nil)) (.node { cls := Value.type "tuple", data := Data.seq #[] } (.node z44 (.node { cls := Value.type "tuple", data := Data.seq #[] } .nil .nil) (.node (fnO 68 (.str (Str.ofString "law_rs0110_01") 598) 107) .nil .nil)) (.node z60 (.node z92 .nil .nil) .nil)))) (.node { cls := Value.type "dict", data := Data.dict #[] } (.node (boot_o_10 P) (.node z18 (.node z34 (.node { cls := Value.type "tuple", data := Data.seq #[] } .nil .nil) (.node (fnO 66 (.str (Str.ofString "law_rs0110_01") 598) 97) .nil .nil)) (.node (fnC 4) (.node z82 .nil .nil) .nil)) (.node { cls := Value.ref 22, dict := some 20 } (.node { cls := Value.type "tuple", data := Data.seq #[] } (.node { cls := Value.none, data := Data.fields #[] } .nil .nil) (.node (fnC 68) .nil .nil)) (.node z58 (.node { cls := Value.type "tuple", data := Data.seq #[] } .nil .nil) .nil))) (.node z14 (.node z22 (.node (fnO 2 (.str (Str.ofString "cpy313.email.utils") 282) 37) (.node (z70 P) .nil .nil) (.node z102 .nil .nil)) (.node { cls := Value.type "dict", data := Data.dict #[] } (.node (fnO 63 (.str (Str.ofString "cpy313.token") 385) 85) .nil .nil) .nil)) (.node z30 (.node { cls := Value.type "tuple", data := Data.seq #[] } (.node z78 .nil .nil) .nil) (.node z62 (.node { cls := Value.type "tuple", data := Data.seq #[] } .nil .nil) .nil))))))
noncomputable abbrev S_p67 (w : World) (os : OsState) : SharedT := ⟨T_p67 w.params, 109, {}, #[], {}, 634, os⟩
noncomputable def H_fin (P : Params) : Heap := ⟨⟨[(boot_o_0 P), (z1 P), (z2 P), (z3v5 P), { cls := Value.type "module", dict := some 0 }, { cls := Value.type "module", dict := some 3 }, { cls := Value.type "dict", data := Data.dict #[] }, { cls := Value.type "tuple", data := Data.seq #[] }, { cls := Value.none, data := Data.fields #[] }, (boot_o_9 P), (boot_o_10 P), (z11v1 P), { cls := Value.type "module", dict := some 11 }, (z13 P), z14, { cls := Value.type "tuple", data := Data.seq #[] }, z16, z17, z18, { cls := Value.type "list", data := Data.seq #[] }, (z20 P), (z21 P), z22, z23, z24, z25, { cls := Value.ref 22, dict := some 20 }, z27, { cls := Value.type "tuple", data := Data.seq #[] }, z29v2, z30, z31, { cls := Value.type "tuple", data := Data.seq #[] }, { cls := Value.none, data := Data.fields #[] }, z34, { cls := Value.type "tuple", data := Data.seq #[] }, (fnC 2), z37, (fnO 2 (.str (Str.ofString "cpy313.email.utils") 282) 37), { cls := Value.type "tuple", data := Data.seq #[] }, { cls := Value.none, data := Data.fields #[] }, z41, { cls := Value.type "tuple", data := Data.seq #[] }, (fnC 3), z44, (fnO 3 (.str (Str.ofString "cpy313.email.utils") 282) 44), { cls := Value.type "tuple", data := Data.seq #[] }, { cls := Value.none, data := Data.fields #[] }, z48, { cls := Value.type "tuple", data := Data.seq #[] }, (fnC 4), z51, (fnO 4 (.str (Str.ofString "cpy313.email.utils") 282) 51), z53, { cls := Value.type "dict", data := Data.dict #[] }, z55, z56, z57, z58, { cls := Value.type "dict", data := Data.dict #[] }, z60, z61, z62, { cls := Value.type "tuple", data := Data.seq #[] }, { cls := Value.none, data := Data.fields #[] }, z65, { cls := Value.type "tuple", data := Data.seq #[] }, (fnC 9), z68, (fnO 9 (.str (Str.ofString "cpy313.smtplib") 316) 68), (z70 P), (z71 P), (z72 P), { cls := Value.type "tuple", data := Data.seq #[] }, { cls := Value.none, data := Data.fields #[] }, z75, { cls := Value.type "tuple", data := Data.seq #[] }, (fnC 62), z78, (fnO 62 (.str (Str.ofString "cpy313.token") 385) 78), { cls := Value.type "tuple", data := Data.seq #[] }, { cls := Value.none, data := Data.fields #[] }, z82, { cls := Value.type "tuple", data := Data.seq #[] }, (fnC 63), z85, (fnO 63 (.str (Str.ofString "cpy313.token") 385) 85), { cls := Value.type "tuple", data := Data.seq #[] }, { cls := Value.none, data := Data.fields #[] }, z89, { cls := Value.type "tuple", data := Data.seq #[] }, (fnC 65), z92, (fnO 65 (.str (Str.ofString "law_rs0110_01") 598) 92), { cls := Value.type "tuple", data := Data.seq #[] }, { cls := Value.none, data := Data.fields #[] }, (fnC 66), z97, (fnO 66 (.str (Str.ofString "law_rs0110_01") 598) 97), { cls := Value.type "tuple", data := Data.seq #[] }, { cls := Value.none, data := Data.fields #[] }, (fnC 67), z102, (fnO 67 (.str (Str.ofString "law_rs0110_01") 598) 102), { cls := Value.type "tuple", data := Data.seq #[] }, { cls := Value.none, data := Data.fields #[] }, (fnC 68), z107, (fnO 68 (.str (Str.ofString "law_rs0110_01") 598) 107)]⟩, {}⟩
/-- what the walk asks of the heap that the top leaves -/
noncomputable def KH (P : Params) : Frag := [(3, (z3v5 P)), (37, z37), (38, (fnO 2 (.str (Str.ofString "cpy313.email.utils") 282) 37)), (44, z44), (45, (fnO 3 (.str (Str.ofString "cpy313.email.utils") 282) 44)), (51, z51), (52, (fnO 4 (.str (Str.ofString "cpy313.email.utils") 282) 51)), (56, z56), (57, z57), (61, z61), (62, z62), (68, z68), (69, (fnO 9 (.str (Str.ofString "cpy313.smtplib") 316) 68)), (70, (z70 P)), (78, z78), (79, (fnO 62 (.str (Str.ofString "cpy313.token") 385) 78)), (85, z85), (86, (fnO 63 (.str (Str.ofString "cpy313.token") 385) 85)), (92, z92), (93, (fnO 65 (.str (Str.ofString "law_rs0110_01") 598) 92)), (97, z97), (98, (fnO 66 (.str (Str.ofString "law_rs0110_01") 598) 97)), (102, z102), (103, (fnO 67 (.str (Str.ofString "law_rs0110_01") 598) 102)), (107, z107), (108, (fnO 68 (.str (Str.ofString "law_rs0110_01") 598) 107))]
noncomputable abbrev asH : List Addr := [3, 37, 38, 44, 45, 51, 52, 56, 57, 61, 62, 68, 69, 70, 78, 79, 85, 86, 92, 93, 97, 98, 102, 103, 107, 108]
noncomputable abbrev HK : Hook := kHook KH asH (fun _ => by kernel_rfl)
noncomputable abbrev looseH : List Str := [Str.ofString "_twin_re_1", Str.ofString "_twin_re_2", Str.ofString "EXACT_TOKEN_TYPES"]
noncomputable abbrev rwH : RowW := PySem.Challenge.rw_rs0110_01.row.toRowW
noncomputable abbrev xtH : Shared → Bool := fun s => xlAt viewQ [] s && recOk rwH.records s
noncomputable abbrev rowH : String := "special-get-raises"
noncomputable abbrev bodyH : List Stmt := behindTheImports pwH
noncomputable abbrev envH : Env := { scope := pwH.main.scope, locals := mainNs, globals := mainNs, cells := [], code := .ref 30, frame := some 31 }
noncomputable abbrev cH : Code := .body bodyH envH
abbrev annH : Option Value := some (.ref 6)
noncomputable abbrev sl (a n : Nat) : List Stmt := (bodyH.drop a).take n
noncomputable abbrev shH (H : Params → Heap) (k : Nat) (w : World) (os : OsState) : Shared := ⟨H w.params, #[], {}, k, os⟩
theorem impT_ends {tb : String → Option Builtin} {p : Program} {w : World} {n : Nat} {s s' : SharedT} {t : Thread} (h : (impGoT tb p w n s t).map (fun x => (x.1, x.2.atExitBegin)) = some (s', some [])) : importEnds tb p w (n + 1) s.abs t = some s'.abs := by
  obtain ⟨⟨s₁, t₁⟩, e1, e2⟩ := Option.map_eq_some_iff.mp h
  obtain ⟨rfl, e3⟩ := Prod.mk.inj e2
  refine imp_go (impGo_of e1) ?_
  unfold importEnds
  dsimp only at e3
  rw [e3]
theorem impH : ∀ w : World, (fun os : OsState => (impGoT treeTable (opening pwH) w 798 ⟨.nil, 0, {}, #[], {}, 1, os⟩ (start (opening pwH)).2).map (fun x => (x.1, x.2.atExitBegin))) = fun os => some (⟨T_impend w.params, 28, {}, #[], {}, 276, os⟩, some []) := by
  intro w
  rewrite [PySem.W.Fast.te14364793385576792824, PySem.W.Fast.te14789777615569096658, PySem.W.Fast.te1435165496053646825]
  kernel_rfl
theorem openH : ∀ w : World, (fencedOpening treeTable pwH w 3962).map (fun s => (s.heap, s.gens, s.drawn, s.toks)) = some (H_boot w.params, #[], {}, 276) :=
  open_cut (p := pwH) (N := 3962) (M := 799) (He := fun P => absHeap (T_impend P) 28 {}) (ge := #[]) (de := {}) (ke := 276) (fun w => impT_ends (n := 798) (s := ⟨.nil, 0, {}, #[], {}, 1, (start (opening pwH)).1.os⟩) (congrFun (impH w) _)) (by decide) (fun w => by
    rewrite [PySem.W.Fast.te14289696077712309145]
    kernel_rfl)
theorem preH : ∀ (w : World) (os : OsState), topGo treeTable pwH w 28 annH 12 (shH H_boot 276 w os) (topStub pwH) = some (shH H_pre 282 w os, ⟨denote treeTable cH, cH, pos0, [topFrame pos0]⟩) := by
  intro w os
  kernel_rfl
theorem blockH : ∀ (w : World) (os : OsState), segRun treeTable pwH w 28 annH 1 1 (shH H_pre 282 w os) (blockOf bodyH envH cH pos0 [topFrame pos0]) = some (.next, (S_block w os).abs, cH, pos0) := by
  intro w os
  kernel_rfl
theorem seg_p8 : ∀ (w : World) (os : OsState), segRunT treeTable pwH w 28 annH 1 299 (S_block w os) (piecesOf (sl 0 9) envH cH pos0 [topFrame pos0]) = some (.next, S_p8 w os, cH, { line := 49, col := 0, endLine := 50, endCol := 59 }) := by
  intro w os
  rewrite [PySem.W.Fast.te10110043849684766642, PySem.W.Fast.te14364793385576792824]
  kernel_rfl
theorem seg_p30 : ∀ (w : World) (os : OsState), segRunT treeTable pwH w 28 annH 1 199 (S_p8 w os) (piecesOf (sl 9 22) envH cH { line := 49, col := 0, endLine := 50, endCol := 59 } [topFrame pos0]) = some (.next, S_p30 w os, cH, { line := 72, col := 0, endLine := 72, endCol := 6 }) := by
  intro w os
  rewrite [PySem.W.Fast.te10110043849684766642, PySem.W.Fast.te14364793385576792824]
  kernel_rfl
theorem seg_p59 : ∀ (w : World) (os : OsState), segRunT treeTable pwH w 28 annH 1 262 (S_p30 w os) (piecesOf (sl 31 29) envH cH { line := 72, col := 0, endLine := 72, endCol := 6 } [topFrame pos0]) = some (.next, S_p59 w os, cH, { line := 101, col := 0, endLine := 101, endCol := 9 }) := by
  intro w os
  rewrite [PySem.W.Fast.te10110043849684766642, PySem.W.Fast.te14364793385576792824]
  kernel_rfl
theorem seg_p60F : ∀ (w : World), (fun os : OsState => segRunT treeTable pwH (w.withFollow rowH false) 28 annH 1 979 (S_p59 (w.withFollow rowH false) os) (piecesOf (sl 60 1) envH cH { line := 101, col := 0, endLine := 101, endCol := 9 } [topFrame pos0])) = fun os => some (.next, S_p60 (w.withFollow rowH false) os, cH, { line := 102, col := 0, endLine := 102, endCol := 17 }) := by
  intro w
  rewrite [PySem.W.Fast.te10110043849684766642, PySem.W.Fast.te14364793385576792824]
  kernel_rfl
theorem seg_p60T : ∀ (w : World), (fun os : OsState => segRunT treeTable pwH (w.withFollow rowH true) 28 annH 1 979 (S_p59 (w.withFollow rowH true) os) (piecesOf (sl 60 1) envH cH { line := 101, col := 0, endLine := 101, endCol := 9 } [topFrame pos0])) = fun os => some (.next, S_p60 (w.withFollow rowH true) os, cH, { line := 102, col := 0, endLine := 102, endCol := 17 }) := by
  intro w
  rewrite [PySem.W.Fast.te10110043849684766642, PySem.W.Fast.te14364793385576792824]
  kernel_rfl
theorem seg_p60 : ∀ (w : World) (os : OsState), segRunT treeTable pwH w 28 annH 1 979 (S_p59 w os) (piecesOf (sl 60 1) envH cH { line := 101, col := 0, endLine := 101, endCol := 9 } [topFrame pos0]) = some (.next, S_p60 w os, cH, { line := 102, col := 0, endLine := 102, endCol := 17 }) := fun w os => congrFun (byRow2 rowH (P := fun w => (fun os : OsState => segRunT treeTable pwH w 28 annH 1 979 (S_p59 w os) (piecesOf (sl 60 1) envH cH { line := 101, col := 0, endLine := 101, endCol := 9 } [topFrame pos0])) = fun os => some (.next, S_p60 w os, cH, { line := 102, col := 0, endLine := 102, endCol := 17 })) seg_p60F seg_p60T w) os
theorem seg_p67 : ∀ (w : World) (os : OsState), segRunT treeTable pwH w 28 annH 1 184 (S_p60 w os) (piecesOf (sl 61 7) envH cH { line := 102, col := 0, endLine := 102, endCol := 17 } [topFrame pos0]) = some (.next, S_p67 w os, cH, { line := 146, col := 0, endLine := 186, endCol := 15 }) := by
  intro w os
  rewrite [PySem.W.Fast.te10110043849684766642, PySem.W.Fast.te14364793385576792824]
  kernel_rfl
theorem finH : ∀ (w : World) (os : OsState), topRun treeTable pwH w 28 annH 2 (S_p67 w os).abs ⟨doneF .next, cH, { line := 146, col := 0, endLine := 186, endCol := 15 }, [topFrame pos0]⟩ = some (shH H_fin 634 w os) := by
  intro w os
  kernel_rfl
theorem sizeH : ∀ w : World, ((H_boot w.params).isNs mainGlobals && (#[] : Array GenState).size == 0, (H_boot w.params).objs.size, (H_boot w.params).nsMap mainGlobals "__annotations__") = (true, 28, annH) := by
  intro w
  kernel_rfl
theorem body_sl (a n : Nat) : bodyH.drop a = sl a n ++ bodyH.drop (a + n) := by
  rw [← List.drop_drop]
  exact (List.take_append_drop n _).symm
theorem piece_at {w : World} {a n k N : Nat} {s s' : SharedT} {r : Shared} {q q' : Pos} (h : segRunT treeTable pwH w 28 annH 1 k s (piecesOf (sl a n) envH cH q [topFrame pos0]) = some (.next, s', cH, q'))
    (g : topRun treeTable pwH w 28 annH N s'.abs (restOf (bodyH.drop (a + n)) envH cH q' [topFrame pos0]) = some r) : topRun treeTable pwH w 28 annH (k + N) s.abs (restOf (bodyH.drop a) envH cH q [topFrame pos0]) = some r :=
  (congrArg (fun l => topRun treeTable pwH w 28 annH (k + N) s.abs (restOf l envH cH q [topFrame pos0])) (body_sl a n)).trans (piece_app (segRun_of h) g)
theorem body_end : bodyH.drop 68 = [] := by kernel_rfl
theorem body_start : bodyH = bodyH.drop 0 := rfl
theorem runH : ∀ (w : World) (os : OsState), topRun treeTable pwH w 28 annH (12 + (1 + (299 + (199 + (262 + (979 + (184 + 2))))))) (shH H_boot 276 w os) (topStub pwH) = some (shH H_fin 634 w os) := fun w os =>
  go_top (preH w os) (piece_block (blockH w os) (piece_at (a := 0) (n := 9) (seg_p8 w os) (piece_at (a := 9) (n := 22) (seg_p30 w os) (piece_at (a := 31) (n := 29) (seg_p59 w os) (piece_at (a := 60) (n := 1) (seg_p60 w os) (piece_at (a := 61) (n := 7) (seg_p67 w os) (show topRun treeTable pwH w 28 annH 2 (S_p67 w os).abs (restOf (bodyH.drop 68) envH cH { line := 146, col := 0, endLine := 186, endCol := 15 } [topFrame pos0]) = some (shH H_fin 634 w os) from (congrArg (fun l => topRun treeTable pwH w 28 annH 2 (S_p67 w os).abs (restOf l envH cH { line := 146, col := 0, endLine := 186, endCol := 15 } [topFrame pos0])) body_end).trans (piece_nil (finH w os)))))))))
theorem lk0 : ∀ (w : World) (os : OsState), seen ((recsOf viewQ).map (·.name)) (ownsOf viewQ) [] { (shH H_fin 634 w os) with gens := #[] } = expectedOf viewQ := by
  intro w os
  rewrite [PySem.W.Fast.te5160383126252970620]
  kernel_rfl
theorem lk1 : ∀ (w : World) (os : OsState), (shH H_fin 634 w os).heap.bltView = bltViewBooted := by
  intro w os
  kernel_rfl
theorem lk2a : ∀ (w : World) (os : OsState), (shH H_fin 634 w os).heap.keysOk (looseW viewQ looseH) ((recsOf viewQ).map (·.name)) ((litsOf viewQ).map (·.1)) ((clssOf viewQ (looseW viewQ looseH)).map (·.name)) = true := by
  intro w os
  rewrite [PySem.W.Fast.te10880121769531294198]
  kernel_rfl
theorem lk2b : ∀ (w : World) (os : OsState), (shH H_fin 634 w os).heap.accountedOkI (importedModules pwH.main.body) = true := by
  intro w os
  rewrite [PySem.W.Fast.te14722251495701143533]
  kernel_rfl
theorem lk2c : ∀ (w : World) (os : OsState), ((shH H_fin 634 w os).heap.isNs mainGlobals && (shH H_fin 634 w os).heap.isNs builtinsNs) = true := by
  intro w os
  kernel_rfl
theorem lk2e : ∀ (w : World) (os : OsState), tablesOk viewQ (shH H_fin 634 w os).heap = true := by
  intro w os
  rewrite [PySem.W.Fast.te10994771534591457954]
  kernel_rfl
theorem lk2f : ∀ (w : World) (os : OsState), xtH (shH H_fin 634 w os) = true := by
  intro w os
  kernel_rfl
theorem lk3 : ∀ (w : World) (os : OsState), tabsOk viewQ (shH H_fin 634 w os) = true := by
  intro w os
  rewrite [PySem.W.Fast.te479339242167458305]
  kernel_rfl
theorem lk4 : ∀ (w : World) (os : OsState), pinSeenD viewQ (drecsOf viewQ) (shH H_fin 634 w os) = pinGoodD (drecsOf viewQ) := by
  intro w os
  rewrite [PySem.W.Fast.te16090120013241838585]
  kernel_rfl
theorem lk5 : ∀ (w : World) (os : OsState), plainSeenE viewQ (looseW viewQ looseH) (shH H_fin 634 w os) = plainGoodE viewQ (looseW viewQ looseH) := by
  intro w os
  rewrite [PySem.W.Fast.te2386780881361962483]
  kernel_rfl
theorem lk6 : ∀ (w : World) (os : OsState), plainSeenD viewQ looseH (shH H_fin 634 w os) = plainGoodD viewQ looseH := by
  intro w os
  rewrite [PySem.W.Fast.te11698064438423848299]
  kernel_rfl
theorem lk7 : ∀ (w : World) (os : OsState), wideSeen viewQ (shH H_fin 634 w os) = wideGood viewQ := by
  intro w os
  rewrite [PySem.W.Fast.te7317090234206586261]
  kernel_rfl
theorem lk8 : ∀ (w : World) (os : OsState), clsSeenW viewQ looseH (shH H_fin 634 w os) = clsGoodW viewQ looseH := by
  intro w os
  rewrite [PySem.W.Fast.te7369524293546568484]
  kernel_rfl
theorem look1 : ∀ (w : World) (os : OsState), (staticsOk (importedModules pwH.main.body) (H_boot w.params) (H_fin w.params) && namesBound pwH (H_fin w.params) && gensDone (shH H_fin 634 w os) && laidKept (H_boot w.params) (H_fin w.params)) = true := by
  intro w os
  kernel_rfl
theorem all_seven {a b c d e f g : Bool} (h1 : a = true) (h2 : b = true) (h3 : (c && d) = true) (h5 : e = true) (h6 : f = true) (h7 : g = true) : (a && b && c && d && e && f && g) = true := by
  rw [Bool.and_assoc _ c d, h1, h2, h3, h5, h6, h7]; rfl
theorem look2 : ∀ (w : World) (os : OsState), openSeen viewQ looseH (importedModules pwH.main.body) xtH true (shH H_fin 634 w os) = openGood viewQ looseH := by
  intro w os
  unfold openSeen openGood
  exact looks_pair (lk0 w os) (looks_pair (lk1 w os) (looks_pair (all_seven (lk2a w os) (lk2b w os) (lk2c w os) (lk2e w os) (lk2f w os) rfl) (looks_pair (lk3 w os) (looks_pair (lk4 w os) (looks_pair (lk5 w os) (looks_pair (lk6 w os) (looks_pair (lk7 w os) (lk8 w os))))))))
theorem look3 : ∀ (w : World) (os : OsState), HK.obs (shH H_fin 634 w os) = HK.val w := by
  intro w os
  kernel_rfl
theorem leftH : LeftO PySem.Challenge.pw_rs0110_01 viewQ looseH xtH HK.obs HK.val 3962 :=
  LeftO.of_pieces openH sizeH runH (by decide) (fun w => funext fun os => looks_pair (look1 w os) (looks_pair (look2 w os) (look3 w os)))
noncomputable def lawD : DefRec := ((defOf viewQ (Str.ofString "law")).get (by decide +kernel)).1
theorem hdM (call : WalkO viewQ looseH (XL viewQ []) HK.says rwH lawD [] fun f vs => PySem.call f vs) : PySem.Challenge.rw_rs0110_01.Holds := by
  w_on
  o_law
  refine holds_open (q := viewQ) (loose := looseH) (Xt := xtH) (XP := XL viewQ []) (Yf := HK.obs) (Ya := HK.val) (YP := HK.says) (N := 3962) leftH HK.of HK.keeps (fun s e => xl_of s (Bool.and_eq_true_iff.mp e).1) XL.keeps (by kernel_rfl) (by kernel_rfl) (by kernel_rfl) (fun s e => recFacts_of (Bool.and_eq_true_iff.mp e).2) (by rfl) (by first | assumption | decide +kernel) (by decide +kernel) ⟨by kernel_rfl, by kernel_rfl, by kernel_rfl, by kernel_rfl, by kernel_rfl, by decide +kernel⟩ ?hw call
  case hw => w_witness2
theorem lawD_name : lawD.name = Str.ofString "law" := by kernel_rfl
end Mine
end
section
open PySem PySem.W PyProof.Rows PySem.Calls
namespace Mine

/-- plain values -/
inductive PV where
  | none
  | bool (b : Bool)
  | int (i : Int)
  | str (x : Str)
  | tup (l : List PV)
  | lst (l : List PV)
  | rng (a b : Int)

noncomputable abbrev tupO (vs : List Value) (n : Nat) : Obj := { cls := .type "tuple", data := .seq vs.toArray n }
noncomputable abbrev lstO (vs : List Value) (n : Nat) : Obj := { cls := .type "list", data := .seq vs.toArray n }

mutual
/-- the heap bears the plain value at v, away from X -/
inductive Rp (X : List Addr) (h : Heap) : Value → PV → Prop
  | none : Rp X h .none .none
  | bool (b : Bool) : Rp X h (.bool b) (.bool b)
  | int (i : Int) (t : Tok) : Rp X h (.int i t) (.int i)
  | str (x : Str) (t : Tok) : Rp X h (.str x t) (.str x)
  | tup {a : Addr} {vs : List Value} {n : Nat} {ds : List PV} : a ∉ X → h.get? a = some (tupO vs n) → RpL X h vs ds → Rp X h (.ref a) (.tup ds)
  | lst {a : Addr} {vs : List Value} {n : Nat} {ds : List PV} : a ∉ X → h.get? a = some (lstO vs n) → RpL X h vs ds → Rp X h (.ref a) (.lst ds)
  | rng {r : Addr} {a b : Int} {t u v : Tok} : r ∉ X → IsRange h r a b 1 t u v → Rp X h (.ref r) (.rng a b)
inductive RpL (X : List Addr) (h : Heap) : List Value → List PV → Prop
  | nil : RpL X h [] []
  | cons {v : Value} {vs : List Value} {d : PV} {ds : List PV} : Rp X h v d → RpL X h vs ds → RpL X h (v :: vs) (d :: ds)
end

mutual
theorem Rp.keep {X : List Addr} {h h' : Heap} (hk : ∀ a o, a ∉ X → h.get? a = some o → h'.get? a = some o) : ∀ {v : Value} {d : PV}, Rp X h v d → Rp X h' v d
  | _, _, .none => .none
  | _, _, .bool b => .bool b
  | _, _, .int i t => .int i t
  | _, _, .str x t => .str x t
  | _, _, .tup ha e r => .tup ha (hk _ _ ha e) (RpL.keep hk r)
  | _, _, .lst ha e r => .lst ha (hk _ _ ha e) (RpL.keep hk r)
  | _, _, .rng ha e => .rng ha (hk _ _ ha e)
theorem RpL.keep {X : List Addr} {h h' : Heap} (hk : ∀ a o, a ∉ X → h.get? a = some o → h'.get? a = some o) : ∀ {vs : List Value} {ds : List PV}, RpL X h vs ds → RpL X h' vs ds
  | _, _, .nil => .nil
  | _, _, .cons x r => .cons (Rp.keep hk x) (RpL.keep hk r)
end
mutual
theorem Rp.away {X X' : List Addr} {h : Heap} (hk : ∀ a o, h.get? a = some o → a ∉ X → a ∉ X') : ∀ {v : Value} {d : PV}, Rp X h v d → Rp X' h v d
  | _, _, .none => .none
  | _, _, .bool b => .bool b
  | _, _, .int i t => .int i t
  | _, _, .str x t => .str x t
  | _, _, .tup ha e r => .tup (hk _ _ e ha) e (RpL.away hk r)
  | _, _, .lst ha e r => .lst (hk _ _ e ha) e (RpL.away hk r)
  | _, _, .rng ha e => .rng (hk _ _ e ha) e
theorem RpL.away {X X' : List Addr} {h : Heap} (hk : ∀ a o, h.get? a = some o → a ∉ X → a ∉ X') : ∀ {vs : List Value} {ds : List PV}, RpL X h vs ds → RpL X' h vs ds
  | _, _, .nil => .nil
  | _, _, .cons x r => .cons (Rp.away hk x) (RpL.away hk r)
end

/-- what a variable holds: nothing; a plain value; a list of the frame's own that grows -/
inductive VV where
  | u
  | p (d : PV)
  | o (a : Addr) (l : List PV)

inductive Rv (X : List Addr) (h : Heap) : Value → VV → Prop
  | p {v : Value} {d : PV} : Rp X h v d → Rv X h v (.p d)
  | o {a : Addr} {vs : List Value} {n : Nat} {ds : List PV} : a ∈ X → h.get? a = some (lstO vs n) → RpL X h vs ds → Rv X h (.ref a) (.o a ds)

section
variable {X X' : List Addr} {h h' : Heap} {vs ws : List Value} {ds es : List PV} {v : Value} {d : PV}
theorem RpL.length (r : RpL X h vs ds) : vs.length = ds.length := by
  induction vs generalizing ds with
  | nil => cases r; rfl
  | cons v vs ih => cases r with | cons _ r => simp [ih r]
theorem RpL.append (r : RpL X h vs ds) (q : RpL X h ws es) : RpL X h (vs ++ ws) (ds ++ es) := by
  induction vs generalizing ds with
  | nil => cases r; exact q
  | cons v vs ih => cases r with | cons x r => exact .cons x (ih r)
theorem RpL.get (r : RpL X h vs ds) {k : Nat} {d : PV} (hk : ds[k]? = some d) : ∃ v, vs[k]? = some v ∧ Rp X h v d := by
  induction vs generalizing ds k with
  | nil => cases r; simp at hk
  | cons v vs ih =>
    cases r with
    | cons x r =>
      cases k with
      | zero => simp at hk; subst hk; exact ⟨v, rfl, x⟩
      | succ k => simpa using ih r (by simpa using hk)
theorem RpL.getV (r : RpL X h vs ds) {k : Nat} {v : Value} (hk : vs[k]? = some v) : ∃ d, ds[k]? = some d ∧ Rp X h v d := by
  induction vs generalizing ds k with
  | nil => simp at hk
  | cons v vs ih =>
    cases r with
    | cons x r =>
      cases k with
      | zero => simp at hk; subst hk; exact ⟨_, rfl, x⟩
      | succ k => simpa using ih r (by simpa using hk)
theorem RpL.take (r : RpL X h vs ds) (n : Nat) : RpL X h (vs.take n) (ds.take n) := by
  induction n generalizing vs ds with
  | zero => simpa using RpL.nil
  | succ n ih => cases r with | nil => simpa using RpL.nil | cons x r => exact .cons x (ih r)
theorem RpL.drop (r : RpL X h vs ds) (n : Nat) : RpL X h (vs.drop n) (ds.drop n) := by
  induction n generalizing vs ds with
  | zero => simpa using r
  | succ n ih => cases r with | nil => simpa using RpL.nil | cons x r => simpa using ih r
theorem RpL.reverse (r : RpL X h vs ds) : RpL X h vs.reverse ds.reverse := by
  induction vs generalizing ds with
  | nil => cases r; exact .nil
  | cons v vs ih => cases r with | cons x r => simpa using (ih r).append (.cons x .nil)
theorem RpL.one (x : Rp X h v d) : RpL X h [v] [d] := .cons x .nil
/-- the whole heap kept -/
theorem Rp.ext (x : Rp X h v d) (hk : ∀ a o, h.get? a = some o → h'.get? a = some o) : Rp X h' v d := x.keep fun a o _ e => hk a o e
theorem RpL.ext (x : RpL X h vs ds) (hk : ∀ a o, h.get? a = some o → h'.get? a = some o) : RpL X h' vs ds := x.keep fun a o _ e => hk a o e
theorem Rp.sub (x : Rp X h v d) (hs : ∀ a ∈ X', a ∈ X) : Rp X' h v d := x.away fun a _ _ ha hb => ha (hs a hb)
theorem RpL.sub (x : RpL X h vs ds) (hs : ∀ a ∈ X', a ∈ X) : RpL X' h vs ds := x.away fun a _ _ ha hb => ha (hs a hb)
theorem Rv.ext {y : VV} (x : Rv X h v y) (hk : ∀ a o, h.get? a = some o → h'.get? a = some o) : Rv X h' v y := by
  cases x with
  | p x => exact .p (x.ext hk)
  | o ha e r => exact .o ha (hk _ _ e) (r.ext hk)
end

/-- all objects kept but those of M, all generators but those of G -/
structure KB (M : List Addr) (G : List Nat) (s s' : Shared) : Prop where
  keep : ∀ a o, a ∉ M → s.heap.get? a = some o → s'.heap.get? a = some o
  gens : ∀ i x, i ∉ G → s.gens[i]? = some x → s'.gens[i]? = some x
  bare : AllBare s.gens → AllBare s'.gens
  os : s'.os = s.os
noncomputable abbrev Ext (s s' : Shared) : Prop := KB [] [] s s'

section
variable {M M' : List Addr} {G G' : List Nat} {s s' s'' : Shared}
theorem KB.refl : KB M G s s := ⟨fun _ _ _ e => e, fun _ _ _ e => e, id, rfl⟩
theorem KB.trans (x : KB M G s s') (y : KB M G s' s'') : KB M G s s'' :=
  ⟨fun a o h e => y.keep a o h (x.keep a o h e), fun i z h e => y.gens i z h (x.gens i z h e), fun b => y.bare (x.bare b), y.os.trans x.os⟩
theorem KB.mono (x : KB M G s s') (hM : ∀ a ∈ M, a ∈ M') (hG : ∀ a ∈ G, a ∈ G') : KB M' G' s s' :=
  ⟨fun a o h e => x.keep a o (fun q => h (hM a q)) e, fun i z h e => x.gens i z (fun q => h (hG i q)) e, x.bare, x.os⟩
theorem KB.wide (x : Ext s s') : KB M G s s' := x.mono (fun _ h => nomatch h) (fun _ h => nomatch h)
theorem KB.k (x : KB [] [] s s') : ∀ a o, s.heap.get? a = some o → s'.heap.get? a = some o := fun a o e => x.keep a o (fun h => nomatch h) e
/-- what is new to s may change -/
theorem KB.new (x : KB M G s s') (y : KB M' G' s' s'') (hM : ∀ a ∈ M', a ∈ M ∨ s.heap.get? a = none) (hG : ∀ i ∈ G', i ∈ G ∨ s.gens[i]? = none) : KB M G s s'' :=
  ⟨fun a o h e => y.keep a o (fun q => (hM a q).elim h fun z => by rw [z] at e; cases e) (x.keep a o h e),
   fun i z h e => y.gens i z (fun q => (hG i q).elim h fun w => by rw [w] at e; cases e) (x.gens i z h e), fun b => y.bare (x.bare b), y.os.trans x.os⟩
theorem Ext.of {h' : Heap} {tk : Nat} (hk : ∀ a o, s.heap.get? a = some o → h'.get? a = some o) : Ext s { s with heap := h', toks := tk } :=
  ⟨fun a o _ e => hk a o e, fun _ _ _ e => e, id, rfl⟩
theorem KB.of {h' : Heap} {tk : Nat} (hk : ∀ a o, a ∉ M → s.heap.get? a = some o → h'.get? a = some o) : KB M G s { s with heap := h', toks := tk } :=
  ⟨hk, fun _ _ _ e => e, id, rfl⟩
theorem Ext.push {o : Obj} : Ext s { s with heap := s.heap.push o } := ⟨fun _ _ _ e => Heap.get?_push_of_some _ e, fun _ _ _ e => e, id, rfl⟩
theorem get_size {h : Heap} : h.get? h.objs.size = none := by
  cases e : h.get? h.objs.size with
  | none => rfl
  | some o => exact absurd (Heap.lt_size e) (Nat.lt_irrefl _)
end

noncomputable def Live (X : List Addr) (h : Heap) : Prop := ∀ a ∈ X, ∃ o, h.get? a = some o
theorem Live.ext {X : List Addr} {h h' : Heap} (l : Live X h) (hk : ∀ a o, h.get? a = some o → h'.get? a = some o) : Live X h' := fun a ha => let ⟨o, e⟩ := l a ha; ⟨o, hk a o e⟩
theorem Live.new {X : List Addr} {h : Heap} {a : Addr} (l : Live X h) (e : h.get? a = none) : a ∉ X := fun ha => by obtain ⟨o, q⟩ := l a ha; rw [e] at q; cases q
theorem Live.sub {X X' : List Addr} {h : Heap} (l : Live X h) (hs : ∀ a ∈ X', a ∈ X) : Live X' h := fun a ha => l a (hs a ha)

/-- a variable of the block holds v -/
noncomputable def Vr (env : Env) (h : Heap) (x : Str) (v : Value) : Prop :=
  (env.kindOf x = some .local ∧ ∃ m, h.Ns env.locals m ∧ m x = some v) ∨ (env.kindOf x = some .cell ∧ ∃ c, env.cells.lookup x = some c ∧ h.IsCell c (some v))
theorem Vr.ext {env : Env} {h h' : Heap} {x : Str} {v : Value} (y : Vr env h x v) (hk : ∀ a o, h.get? a = some o → h'.get? a = some o) : Vr env h' x v := by
  rcases y with ⟨k, m, hn, hm⟩ | ⟨k, c, hc, hv⟩
  · exact .inl ⟨k, m, hn.keeps hk, hm⟩
  · exact .inr ⟨k, c, hc, hv.keeps hk⟩

/-- where an expression is evaluated -/
structure Cx where
  prog : Program
  w : World
  hT : Heap
  A : Around
  env : Env
  ns : List Str
  fix : List Addr := []
noncomputable abbrev Cx.M (C : Cx) : Model := model C.prog C.w
noncomputable def Kp (hT h : Heap) : Prop := ∀ a o, hT.get? a = some o → h.get? a = some o
theorem Kp.ext {hT h h' : Heap} (x : Kp hT h) (hk : ∀ a o, h.get? a = some o → h'.get? a = some o) : Kp hT h' := fun a o e => hk a o (x a o e)

structure FV (C : Cx) (X : List Addr) (vals : List VV) (h : Heap) : Prop where
  kp : Kp C.hT h
  live : Live X h
  kind : C.env.scope.kind = .function
  dbg : ∀ x ∈ C.ns, (x == ("__debug__" : Str)) = false
  var : ∀ (i : Nat) (x : Str) (y : VV), C.ns[i]? = some x → vals[i]? = some y → y ≠ .u → ∃ v, Vr C.env h x v ∧ Rv X h v y
theorem FV.ext {C : Cx} {X : List Addr} {vals : List VV} {h h' : Heap} (F : FV C X vals h) (hk : ∀ a o, h.get? a = some o → h'.get? a = some o) : FV C X vals h' :=
  ⟨F.kp.ext hk, F.live.ext hk, F.kind, F.dbg, fun i x y hi hv hu => let ⟨v, a, b⟩ := F.var i x y hi hv hu; ⟨v, a.ext hk, b.ext hk⟩⟩

/-- the expression gives d, all objects kept -/
structure Ev (C : Cx) (vals : List VV) (e : Expr) (d : PV) : Prop where
  go : ∀ (X : List Addr) (s : Shared) (E : Value → Shared → Prop) (Q : Value → Shared → Prop), FV C X vals s.heap →
    (∀ v s', Ext s s' → Rp X s'.heap v d → Q v s') → wpAny C.M C.A (eval e C.env) Q E s
/-- several, one behind the other -/
structure EvL (C : Cx) (vals : List VV) (es : List Expr) (ds : List PV) : Prop where
  go : ∀ (pos : Pos) (X : List Addr) (s : Shared) (E : Value → Shared → Prop) (Q : List Value → Shared → Prop), FV C X vals s.heap →
    (∀ vs s', Ext s s' → RpL X s'.heap vs ds → Q vs s') → wpAny C.M C.A (spliced (backTo pos (starEach es C.env))) Q E s
/-- a test -/
structure Ts (C : Cx) (vals : List VV) (e : Expr) (b : Bool) : Prop where
  go : ∀ (X : List Addr) (s : Shared) (E : Value → Shared → Prop) (Q : Bool → Shared → Prop), FV C X vals s.heap →
    (∀ s', Ext s s' → Q b s') → wpAny C.M C.A (isTrue e C.env (eval e C.env)) Q E s


section
variable {C : Cx} {vals : List VV}
theorem Ev.int {i : Int} {k : Nat} {pos : Pos} : Ev C vals (.Constant (.int i) k pos) (.int i) := .mk fun X s E Q F h => by
  refine wpAny_Constant_int ?_
  exact h _ _ (Ext.of fun _ _ e => e) (.int _ _)
theorem Ev.str {i : Str} {k : Nat} {pos : Pos} : Ev C vals (.Constant (.str i) k pos) (.str i) := .mk fun X s E Q F h => by
  refine wpAny_Constant_str ?_
  exact h _ _ (Ext.of fun _ _ e => e) (.str _ _)
theorem Ev.bool {b : Bool} {k : Nat} {pos : Pos} : Ev C vals (.Constant (.bool b) k pos) (.bool b) := .mk fun X s E Q F h => wpAny_Constant_bool (h _ _ KB.refl (.bool b))
theorem Ev.none {k : Nat} {pos : Pos} : Ev C vals (.Constant .none k pos) .none := .mk fun X s E Q F h => wpAny_Constant_none (h _ _ KB.refl .none)
theorem Ev.cast {e : Expr} {d d' : PV} (h : Ev C vals e d) (q : d = d') : Ev C vals e d' := q ▸ h
theorem Ts.cast {e : Expr} {d d' : Bool} (h : Ts C vals e d) (q : d = d') : Ts C vals e d' := q ▸ h
/-- a variable's value -/
theorem FV.load {X : List Addr} {s : Shared} {E : Value → Shared → Prop} {Q : Value → Shared → Prop} {i : Nat} {x : Str} {d : PV} (F : FV C X vals s.heap) (hi : C.ns[i]? = some x) (hv : vals[i]? = some (.p d))
    (h : ∀ v, Rp X s.heap v d → Q v s) : wpAny C.M C.A (loadName C.env x) Q E s := by
  obtain ⟨v, hx, r⟩ := F.var i x _ hi hv (by intro e; cases e)
  cases r with
  | p r =>
    rcases hx with ⟨k, m, hn, hm⟩ | ⟨k, c, hc, hv⟩
    · exact wpAny_loadName_local F.kind k hn hm (h v r)
    · exact wpAny_loadName_cell F.kind k hc hv (h v r)
theorem Ev.name {x : Str} {pos : Pos} {d : PV} (i : Nat) (hi : C.ns[i]? = some x) (hv : vals[i]? = some (.p d)) : Ev C vals (.Name x pos) d := .mk fun X s E Q F h =>
  wpAny_Name (F.load hi hv fun v r => h v s KB.refl r) (F.dbg x (List.mem_of_getElem? hi))
theorem EvL.nil : EvL C vals [] [] := .mk fun pos X s E Q F h => spliced_nil (h _ _ KB.refl .nil)
theorem EvL.cons {e : Expr} {es : List Expr} {d : PV} {ds : List PV} (x : Ev C vals e d) (y : EvL C vals es ds) (hs : starEach (e :: es) C.env = (false, eval e C.env) :: starEach es C.env := by rfl) : EvL C vals (e :: es) (d :: ds) := .mk fun pos X s E Q F h => by
  rw [hs]
  show wpAny _ _ (spliced ((false, eval e C.env) :: backTo pos (starEach es C.env))) Q E s
  refine spliced_cons (x.go X s E _ F fun v s₁ e₁ r₁ => y.go pos X s₁ E _ (F.ext e₁.k) fun vs s₂ e₂ r₂ => ?_)
  exact h _ _ (e₁.trans e₂) (.cons (r₁.ext e₂.k) r₂)
theorem Ev.list {es : List Expr} {ds : List PV} {pos : Pos} (x : EvL C vals es ds) (hz : ds.length ≤ sizeLine) : Ev C vals (.List es pos) (.lst ds) := .mk fun X s E Q F h => by
  refine List_ (x.go pos X s E _ F fun vs s₁ e₁ r₁ => wpAny_newList ?_ (by rw [r₁.length]; exact hz))
  refine h _ _ (e₁.trans Ext.push) (.lst (n := 0) ?_ (Heap.get?_push_size _ rfl) (r₁.ext (KB.k Ext.push)))
  exact (F.live.ext e₁.k).new get_size
theorem Ev.tuple {es : List Expr} {ds : List PV} {k : Nat} {pos : Pos} (x : EvL C vals es ds) (hz : ds.length ≤ sizeLine) : Ev C vals (.Tuple es k pos) (.tup ds) := .mk fun X s E Q F h => by
  refine Tuple_ (x.go pos X s E _ F fun vs s₁ e₁ r₁ => wpAny_newTuple ?_ (by rw [r₁.length]; exact hz))
  refine h _ _ (e₁.trans Ext.push) (.tup (n := 0) ?_ (Heap.get?_push_size _ rfl) (r₁.ext (KB.k Ext.push)))
  exact (F.live.ext e₁.k).new get_size

/-- an operation on two values -/
structure Op2 (C : Cx) (f : Value → Value → Sem Value) (a b d : PV) : Prop where
  go : ∀ (X : List Addr) (s : Shared) (E : Value → Shared → Prop) (Q : Value → Shared → Prop) (v w : Value), Kp C.hT s.heap → Live X s.heap → Rp X s.heap v a → Rp X s.heap w b →
    (∀ r s', Ext s s' → Rp X s'.heap r d → Q r s') → wpAny C.M C.A (f v w) Q E s
theorem Ev.bin {l r : Expr} {op : Operator} {pos : Pos} {a b d : PV} (x : Ev C vals l a) (y : Ev C vals r b) (z : Op2 C (binaryOp op) a b d) : Ev C vals (.BinOp l op r pos) d := .mk fun X s E Q F h =>
  wpAny_BinOp (x.go X s E _ F fun v s₁ e₁ r₁ => y.go X s₁ E _ (F.ext e₁.k) fun w s₂ e₂ r₂ => z.go X s₂ E _ v w (F.kp.ext (e₁.trans e₂).k) (F.live.ext (e₁.trans e₂).k) (r₁.ext e₂.k) r₂ fun q s₃ e₃ r₃ => h q s₃ ((e₁.trans e₂).trans e₃) r₃)
theorem Ev.cmp {l r : Expr} {op : CmpOp} {pos : Pos} {a b d : PV} (x : Ev C vals l a) (y : Ev C vals r b) (z : Op2 C (compareOp op) a b d) (hm : behindInMarks op r = false := by rfl) : Ev C vals (.Compare l [op] [r] pos) d := .mk fun X s E Q F h =>
  wpAny_Compare1 (x.go X s E _ F fun v s₁ e₁ r₁ => y.go X s₁ E _ (F.ext e₁.k) fun w s₂ e₂ r₂ => z.go X s₂ E _ v w (F.kp.ext (e₁.trans e₂).k) (F.live.ext (e₁.trans e₂).k) (r₁.ext e₂.k) r₂ fun q s₃ e₃ r₃ => h q s₃ ((e₁.trans e₂).trans e₃) r₃) hm
theorem Ts.cmp {l r : Expr} {op : CmpOp} {pos : Pos} {a b : PV} {c : Bool} (x : Ev C vals l a) (y : Ev C vals r b) (z : Op2 C (compareOp op) a b (.bool c)) (hm : behindInMarks op r = false := by rfl) : Ts C vals (.Compare l [op] [r] pos) c := .mk fun X s E Q F h => by
  refine wpAny_isTrue_Compare1 (x.go X s E _ F fun v s₁ e₁ r₁ => y.go X s₁ E _ (F.ext e₁.k) fun w s₂ e₂ r₂ => z.go X s₂ E _ v w (F.kp.ext (e₁.trans e₂).k) (F.live.ext (e₁.trans e₂).k) (r₁.ext e₂.k) r₂ fun q s₃ e₃ r₃ => ?_) hm
  cases r₃
  exact wpAny_truthy_bool (h s₃ ((e₁.trans e₂).trans e₃))
theorem Ev.ifexp {t a b : Expr} {pos : Pos} {c : Bool} {d : PV} (x : Ts C vals t c) (y : c = true → Ev C vals a d) (z : c = false → Ev C vals b d) : Ev C vals (.IfExp t a b pos) d := .mk fun X s E Q F h => by
  refine wpAny_IfExp (x.go X s E _ F fun s₁ e₁ => ?_)
  cases c with
  | true => exact (y rfl).go X s₁ E _ (F.ext e₁.k) fun v s₂ e₂ r => h v s₂ (e₁.trans e₂) r
  | false => exact (z rfl).go X s₁ E _ (F.ext e₁.k) fun v s₂ e₂ r => h v s₂ (e₁.trans e₂) r
theorem Ts.and {a b : Expr} {pos : Pos} {c d : Bool} (x : Ts C vals a c) (y : c = true → Ts C vals b d) : Ts C vals (.BoolOp .And [a, b] pos) (c && d) := .mk fun X s E Q F h => by
  refine wpAny_isTrue_BoolOp (wpAny_allTrue_And_cons (x.go X s E _ F fun s₁ e₁ => ?_))
  cases c with
  | false => exact h _ e₁
  | true =>
    refine wpAny_allTrue_And_cons ((y rfl).go X s₁ E _ (F.ext e₁.k) fun s₂ e₂ => ?_)
    cases d with
    | false => exact h _ (e₁.trans e₂)
    | true => exact wpAny_allTrue_And_nil (h _ (e₁.trans e₂))
theorem Ts.or {a b : Expr} {pos : Pos} {c d : Bool} (x : Ts C vals a c) (y : c = false → Ts C vals b d) : Ts C vals (.BoolOp .Or [a, b] pos) (c || d) := .mk fun X s E Q F h => by
  refine wpAny_isTrue_BoolOp (wpAny_allTrue_Or_cons (x.go X s E _ F fun s₁ e₁ => ?_))
  cases c with
  | true => exact h _ e₁
  | false =>
    refine wpAny_allTrue_Or_cons ((y rfl).go X s₁ E _ (F.ext e₁.k) fun s₂ e₂ => ?_)
    cases d with
    | true => exact h _ (e₁.trans e₂)
    | false => exact wpAny_allTrue_Or_nil (h _ (e₁.trans e₂))
end
end Mine
end
section
open PySem PySem.W PyProof.Rows PySem.Calls
namespace Mine

/-- room for n more frames -/
structure Rm (A : Around) (n : Nat) : Prop where
  hh : A.handled = none
  depth : A.depth + n < recursionLimit
  units : A.units + 100 + 10 * n < cLine

mutual
noncomputable def toPy : PV → PyData
  | .none => .none
  | .bool b => .bool b
  | .int i => .int i
  | .str x => .str x
  | .tup l => .tuple (toPyL l)
  | .lst l => .list (toPyL l)
  | .rng _ _ => .none
noncomputable def toPyL : List PV → List PyData
  | [] => []
  | d :: ds => toPy d :: toPyL ds
end
mutual
noncomputable def PV.data : PV → Bool
  | .rng _ _ => false
  | .tup l => PV.dataL l
  | .lst l => PV.dataL l
  | _ => true
noncomputable def PV.dataL : List PV → Bool
  | [] => true
  | d :: ds => d.data && PV.dataL ds
end
mutual
theorem Rp.reads {X : List Addr} {h : Heap} : ∀ {v : Value} {d : PV}, Rp X h v d → d.data = true → ∃ as, Reads h v (toPy d) as
  | _, _, .none, _ => ⟨_, .none⟩
  | _, _, .bool b, _ => ⟨_, .bool b⟩
  | _, _, .int i t, _ => ⟨_, .int i t⟩
  | _, _, .str x t, _ => ⟨_, .str x t⟩
  | _, _, .tup _ e r, hd => by
    obtain ⟨as, ra⟩ := RpL.reads r (by simpa [PV.data] using hd)
    exact ⟨_, .tuple e rfl rfl (by simpa using ra)⟩
  | _, _, .lst _ e r, hd => by
    obtain ⟨as, ra⟩ := RpL.reads r (by simpa [PV.data] using hd)
    exact ⟨_, .list e rfl rfl (by simpa using ra)⟩
  | _, _, .rng _ _, hd => by simp [PV.data] at hd
theorem RpL.reads {X : List Addr} {h : Heap} : ∀ {vs : List Value} {ds : List PV}, RpL X h vs ds → PV.dataL ds = true → ∃ as, ReadsAll h vs (toPyL ds) as
  | _, _, .nil, _ => ⟨_, .nil⟩
  | _, _, .cons x r, hd => by
    simp only [PV.dataL, Bool.and_eq_true] at hd
    obtain ⟨as, ra⟩ := Rp.reads x hd.1
    obtain ⟨bs, rb⟩ := RpL.reads r hd.2
    exact ⟨_, .cons ra rb⟩
end
theorem toPyL_map (l : List PV) : toPyL l = l.map toPy := by induction l with | nil => rfl | cons d l ih => simp [toPyL, ih]

section
variable {C : Cx} {vals : List VV}
open PySem.SeqAt

theorem Op2.addI {a b : Int} : Op2 C (binaryOp .Add) (.int a) (.int b) (.int (a + b)) := .mk fun X s E Q v w hK hL ra rb h => by
  cases ra; cases rb
  exact PyProof.Rows.add_int (h _ _ (Ext.of fun _ _ e => e) (.int _ _))
theorem Op2.subI {a b : Int} : Op2 C (binaryOp .Sub) (.int a) (.int b) (.int (a - b)) := .mk fun X s E Q v w hK hL ra rb h => by
  cases ra; cases rb
  exact PyProof.Rows.sub_int (h _ _ (Ext.of fun _ _ e => e) (.int _ _))
theorem Op2.mulI {a b : Int} (hm : IntMulOk a b) : Op2 C (binaryOp .Mult) (.int a) (.int b) (.int (a * b)) := .mk fun X s E Q v w hK hL ra rb h => by
  cases ra; cases rb
  exact PyProof.Rows.mul_int (h _ _ (Ext.of fun _ _ e => e) (.int _ _)) hm
theorem Op2.modI {a b : Int} (hb : b ≠ 0) : Op2 C (binaryOp .Mod) (.int a) (.int b) (.int (a.fmod b)) := .mk fun X s E Q v w hK hL ra rb h => by
  cases ra; cases rb
  exact PyProof.Rows.mod_int hb (h _ _ (Ext.of fun _ _ e => e) (.int _ _))
theorem Op2.divI {a b : Int} (hb : b ≠ 0) (hs : Builtin.divisionGoesByPylong a b = false) : Op2 C (binaryOp .FloorDiv) (.int a) (.int b) (.int (a.fdiv b)) := .mk fun X s E Q v w hK hL ra rb h => by
  cases ra; cases rb
  exact PyProof.Rows.floordiv_int hb (h _ _ (Ext.of fun _ _ e => e) (.int _ _)) (.inl hs)
theorem Op2.addS {x y : Str} (hz : x.length + y.length ≤ sizeLine) : Op2 C (binaryOp .Add) (.str x) (.str y) (.str (x ++ y)) := .mk fun X s E Q v w hK hL ra rb h => by
  cases ra; cases rb
  exact PyProof.Rows.add_str (fun t tk => h _ _ (Ext.of fun _ _ e => e) (.str _ _)) hz
theorem Op2.iaddS {x y : Str} (hz : x.length + y.length ≤ sizeLine) : Op2 C (inplaceOp .Add) (.str x) (.str y) (.str (x ++ y)) := .mk fun X s E Q v w hK hL ra rb h => by
  cases ra; cases rb
  exact PyProof.Rows.iadd_str (fun t tk => h _ _ (Ext.of fun _ _ e => e) (.str _ _)) hz
theorem Op2.iaddI {a b : Int} : Op2 C (inplaceOp .Add) (.int a) (.int b) (.int (a + b)) := .mk fun X s E Q v w hK hL ra rb h => by
  cases ra; cases rb
  exact PyProof.Rows.iadd_int (h _ _ (Ext.of fun _ _ e => e) (.int _ _))
theorem Op2.addL {a b : List PV} (hz : a.length + b.length ≤ sizeLine) : Op2 C (binaryOp .Add) (.lst a) (.lst b) (.lst (a ++ b)) := .mk fun X s E Q v w hK hL ra rb h => by
  cases ra with | lst a1 ho r1 => cases rb with | lst a2 ho2 r2 =>
  rename_i l vs n b' ws n2
  have e : vs.toArray ++ ws.toArray = (vs ++ ws).toArray := by simp
  refine concat_meets ⟨_, ho, rfl⟩ ⟨_, ho2, rfl⟩ noFill_list_add seq_list_add PySem.F.slot_list_add PySem.F.entry_list_add (PySem.F.args_list_add_2 _ _) (list_addW l b' vs.toArray ws.toArray n n2 none none #[] #[] (by simpa [r1.length, r2.length] using hz)) ⟨ho, ho2, ?_⟩
  rw [e]
  exact h _ _ Ext.push (.lst (n := 0) (hL.new get_size) (Heap.get?_push_size _ rfl) ((r1.append r2).ext (KB.k Ext.push)))
theorem Op2.addT {a b : List PV} (hz : a.length + b.length ≤ sizeLine) : Op2 C (binaryOp .Add) (.tup a) (.tup b) (.tup (a ++ b)) := .mk fun X s E Q v w hK hL ra rb h => by
  cases ra with | tup a1 ho r1 => cases rb with | tup a2 ho2 r2 =>
  rename_i t vs n b' ws n2
  have e : vs.toArray ++ ws.toArray = (vs ++ ws).toArray := by simp
  by_cases hv : vs = []
  · subst hv
    have : a = [] := by cases r1; rfl
    subst this
    exact concat_meets ⟨_, ho, rfl⟩ ⟨_, ho2, rfl⟩ noFill_tuple_add seq_tuple_add PySem.F.slot_tuple_add PySem.F.entry_tuple_add (PySem.F.args_tuple_add_2 _ _)
      (tuple_addW0 t b' _ ws.toArray n n2 none none #[] #[] (by simp)) ⟨ho, ho2, h _ _ KB.refl (.tup a2 ho2 r2)⟩
  · by_cases hw : ws = []
    · subst hw
      have : b = [] := by cases r2; rfl
      subst this
      exact concat_meets ⟨_, ho, rfl⟩ ⟨_, ho2, rfl⟩ noFill_tuple_add seq_tuple_add PySem.F.slot_tuple_add PySem.F.entry_tuple_add (PySem.F.args_tuple_add_2 _ _)
        (tuple_addW1 t b' vs.toArray _ n n2 none none #[] #[] (by simpa using hv) (by simp)) ⟨ho, ho2, h _ _ KB.refl (by rw [List.append_nil]; exact .tup a1 ho r1)⟩
    · refine concat_meets ⟨_, ho, rfl⟩ ⟨_, ho2, rfl⟩ noFill_tuple_add seq_tuple_add PySem.F.slot_tuple_add PySem.F.entry_tuple_add (PySem.F.args_tuple_add_2 _ _)
        (tuple_addW2 t b' vs.toArray ws.toArray n n2 none none #[] #[] (by simpa using hv) (by simpa using hw) (by simpa [r1.length, r2.length] using hz)) ⟨ho, ho2, ?_⟩
      rw [e]
      exact h _ _ Ext.push (.tup (n := 0) (hL.new get_size) (Heap.get?_push_size _ rfl) ((r1.append r2).ext (KB.k Ext.push)))
theorem RpL.replicate {X : List Addr} {h : Heap} {v : Value} {d : PV} (r : Rp X h v d) : ∀ n, RpL X h (List.replicate n v) (List.replicate n d)
  | 0 => .nil
  | n + 1 => .cons r (RpL.replicate r n)
theorem rep_one (n : Nat) (v : Value) (acc : Array Value) : List.foldl (fun x1 x2 => x1 ++ x2) acc (List.replicate n #[v]) = acc ++ (List.replicate n v).toArray := by
  induction n generalizing acc with
  | zero => simp
  | succ n ih => rw [List.replicate_succ, List.foldl_cons, ih, List.replicate_succ]; apply Array.ext'; simp
theorem Op2.mulL {a : PV} {k : Int} (h0 : 0 ≤ k) (hz : k ≤ 1000) : Op2 C (binaryOp .Mult) (.lst [a]) (.int k) (.lst (List.replicate k.toNat a)) := .mk fun X s E Q v w hK hL ra rb h => by
  cases rb
  cases ra with | lst a1 ho r1 =>
  rename_i u l vs n
  cases r1 with | cons r r' =>
  cases r'
  rename_i v1
  refine wpAny_binaryOp_repeat_ref (T := "list") (U := "int") (by decide) ⟨_, ho, rfl⟩ (fun s' => typeIs_int s' k u) noFill_list_mul PySem.F.fills_int_mul PySem.F.slot_int_rmul repeat_list PySem.F.slot_int_index.lookup
    (call_meets PySem.F.slot_int_rmul (typeIs_int s k u) PySem.F.entry_int_rmul (PySem.F.args_int_rmul_2 _ _) (int___rmul___int_list k u l _ n)
      ⟨ho, rfl, ⟨_, ho, rfl⟩, call_meets PySem.F.slot_list_mul ⟨_, ho, rfl⟩ PySem.F.entry_list_mul (PySem.F.args_list_mul_2 _ _)
        (AutoListH.list___mul___list_int_3 l _ n k u (by simp [Builtin.List.listFitsIndex]; omega) (by have e1 : ([v1] : List Value).toArray.size = 1 := rfl; rw [e1]; omega) (by have e1 : ([v1] : List Value).toArray.size = 1 := rfl; simp only [Builtin.List.listTooLong, sizeLine, e1]; simp; omega))
        ⟨ho, ?_⟩⟩)
  have e : List.foldl (fun x1 x2 => x1 ++ x2) #[] (List.replicate (if (#[v1] : Array Value).isEmpty = true then 0 else k.toNat) #[v1]) = (List.replicate k.toNat v1).toArray := by
    rw [if_neg (by simp), rep_one]; simp
  show Q (.ref s.heap.objs.size) { s with heap := s.heap.push { cls := .type "list", data := .seq (List.foldl (fun x1 x2 => x1 ++ x2) #[] (List.replicate (if (#[v1] : Array Value).isEmpty = true then 0 else k.toNat) #[v1])) } }
  rw [e]
  exact h _ _ Ext.push (.lst (n := 0) (hL.new get_size) (Heap.get?_push_size _ rfl) ((RpL.replicate r _).ext (KB.k Ext.push)))

theorem Op2.ltI {a b : Int} : Op2 C (compareOp .Lt) (.int a) (.int b) (.bool (decide (a < b))) := .mk fun X s E Q v w hK hL ra rb h => by
  cases ra; cases rb; exact PyProof.Rows.lt_int (h _ _ KB.refl (.bool _))
theorem Op2.gtI {a b : Int} : Op2 C (compareOp .Gt) (.int a) (.int b) (.bool (decide (b < a))) := .mk fun X s E Q v w hK hL ra rb h => by
  cases ra; cases rb; exact PyProof.Rows.gt_int (h _ _ KB.refl (.bool _))
theorem Op2.eqI {a b : Int} : Op2 C (compareOp .Eq) (.int a) (.int b) (.bool (a == b)) := .mk fun X s E Q v w hK hL ra rb h => by
  cases ra; cases rb; exact PyProof.Rows.eq_int (h _ _ KB.refl (.bool _))
theorem Op2.neI {a b : Int} : Op2 C (compareOp .NotEq) (.int a) (.int b) (.bool (a != b)) := .mk fun X s E Q v w hK hL ra rb h => by
  cases ra; cases rb; exact PyProof.Rows.ne_int (h _ _ KB.refl (.bool _))
theorem Op2.eqS {a b : Str} : Op2 C (compareOp .Eq) (.str a) (.str b) (.bool (a == b)) := .mk fun X s E Q v w hK hL ra rb h => by
  cases ra; cases rb; exact PyProof.Rows.eq_str (h _ _ KB.refl (.bool _))
theorem Op2.isN {a : Option Int} : Op2 C (compareOp .Is) (match a with | .none => .none | .some i => .int i) .none (.bool a.isNone) := .mk fun X s E Q v w hK hL ra rb h => by
  cases rb
  cases a with
  | none => cases ra; exact wpAny_is_plain (by decide) (h _ _ KB.refl (.bool _))
  | some i => cases ra; exact wpAny_is_plain rfl (h _ _ KB.refl (.bool _))
theorem Op2.isNotB {a b : Bool} : Op2 C (compareOp .IsNot) (.bool a) (.bool b) (.bool (a != b)) := .mk fun X s E Q v w hK hL ra rb h => by
  cases ra; cases rb
  refine wpAny_isNot_plain rfl ?_
  have e : (!(Value.bool a == Value.bool b)) = (a != b) := by cases a <;> cases b <;> decide
  rw [e]
  exact h _ _ KB.refl (.bool _)
theorem Op2.neD {a b : PV} {n : Nat} (hr : Rm C.A n) (ha : a.data = true) (hb : b.data = true) (sa : shaped (toPy a) = true) (sb : shaped (toPy b) = true) : Op2 C (compareOp .NotEq) a b (.bool (!PyData.eqv (toPy a) (toPy b))) := .mk fun X s E Q v w hK hL ra rb h => by
  obtain ⟨as, qa⟩ := ra.reads ha
  obtain ⟨bs, qb⟩ := rb.reads hb
  exact ne_dataH qa qb sa sb (by have := hr.units; omega) (h _ _ KB.refl (.bool _))
theorem Op2.inL {a : PV} {l : List PV} {n : Nat} (hr : Rm C.A n) (ha : a.data = true) (hb : PV.dataL l = true) (sa : shaped (toPy a) = true) (sb : PyData.canLayAll0 (toPyL l) = true) : Op2 C (compareOp .In) a (.lst l) (.bool ((toPyL l).any fun y => PyData.eqv y (toPy a))) := .mk fun X s E Q v w hK hL ra rb h => by
  obtain ⟨as, qa⟩ := ra.reads ha
  obtain ⟨bs, qb⟩ := rb.reads (d := .lst l) (by simpa [PV.data] using hb)
  exact in_list_reads (by simpa [toPy] using qb) qa sb (canLay_of_shaped sa) (room_in_shaped sa (by have := hr.units; omega)) (h _ _ KB.refl (.bool _))
theorem Op2.inT {a : PV} {l : List PV} {n : Nat} (hr : Rm C.A n) (ha : a.data = true) (hb : PV.dataL l = true) (sa : shaped (toPy a) = true) (sb : PyData.canLayAll0 (toPyL l) = true) : Op2 C (compareOp .In) a (.tup l) (.bool ((toPyL l).any fun y => PyData.eqv y (toPy a))) := .mk fun X s E Q v w hK hL ra rb h => by
  obtain ⟨as, qa⟩ := ra.reads ha
  obtain ⟨bs, qb⟩ := rb.reads (d := .tup l) (by simpa [PV.data] using hb)
  exact in_tuple_reads (by simpa [toPy] using qb) qa sb (canLay_of_shaped sa) (room_in_shaped sa (by have := hr.units; omega)) (h _ _ KB.refl (.bool _))
theorem Op2.ninT {a : PV} {l : List PV} {n : Nat} (hr : Rm C.A n) (ha : a.data = true) (hb : PV.dataL l = true) (sa : shaped (toPy a) = true) (sb : PyData.canLayAll0 (toPyL l) = true) : Op2 C (compareOp .NotIn) a (.tup l) (.bool (!(toPyL l).any fun y => PyData.eqv y (toPy a))) := .mk fun X s E Q v w hK hL ra rb h => by
  obtain ⟨as, qa⟩ := ra.reads ha
  obtain ⟨bs, qb⟩ := rb.reads (d := .tup l) (by simpa [PV.data] using hb)
  exact notIn_tuple_reads (by simpa [toPy] using qb) qa sb (canLay_of_shaped sa) (room_in_shaped sa (by have := hr.units; omega)) (h _ _ KB.refl (.bool _))
end
end Mine
end
section
open PySem PySem.W PyProof.Rows PySem.Calls
namespace Mine

section
variable {C : Cx} {vals : List VV}

theorem Op2.getL {l : List PV} {k : Int} {d : PV} (h0 : 0 ≤ k) (h1 : k < 2 ^ 63) (hx : l[k.toNat]? = some d) : Op2 C getItem (.lst l) (.int k) d := .mk fun X s E Q v w hK hL ra rb h => by
  cases rb
  cases ra with | lst a1 ho r1 =>
  obtain ⟨v, hv, rv⟩ := r1.get hx
  exact wpAny_getItem_list ⟨_, ho, rfl, _, rfl⟩ h0 h1 (by simpa using hv) (h _ _ KB.refl rv)
theorem Op2.getT {l : List PV} {k : Int} {d : PV} (h0 : 0 ≤ k) (h1 : k < 2 ^ 63) (hx : l[k.toNat]? = some d) : Op2 C getItem (.tup l) (.int k) d := .mk fun X s E Q v w hK hL ra rb h => by
  cases rb
  cases ra with | tup a1 ho r1 =>
  obtain ⟨v, hv, rv⟩ := r1.get hx
  rename_i vs _
  have hlt : k.toNat < vs.length := (List.getElem?_eq_some_iff.mp hv).1
  refine getItem_tuple ⟨_, ho, rfl, _, rfl⟩ (by omega) h1 (j := k.toNat) ?_ (by simpa using hv) (h _ _ KB.refl rv)
  unfold seqIndex?
  have e1 : ¬ k < 0 := by omega
  have e2 : (decide (0 ≤ k) && decide (k < (vs.toArray.size : Int))) = true := by
    simp only [List.size_toArray, Bool.and_eq_true, decide_eq_true_eq]; omega
  simp only [e1, if_false, e2, if_true]

theorem Ev.subL {value slice : Expr} {pos : Pos} {l : List PV} {i d : PV} (x : Ev C vals value (.lst l)) (y : Ev C vals slice i) (z : Op2 C getItem (.lst l) i d)
    (hs : ∀ o i, subscripted slice false o i = operate [o, i] (getItem o i) := by intro _ _; rfl) : Ev C vals (.Subscript value slice pos) d := .mk fun X s E Q F h => by
  refine Subscript_ (x.go X s E _ F fun v s₁ e₁ r₁ => y.go X s₁ E _ (F.ext e₁.k) fun w s₂ e₂ r₂ => ?_)
  have r := r₁.ext e₂.k
  have hT : s₂.TypeIs v "list" := by cases r with | lst _ ho _ => exact ⟨_, ho, rfl⟩
  exact tail_any hT PySem.F.slot_list_getitem.lookup (z.go X s₂ E _ v w (F.kp.ext (e₁.trans e₂).k) (F.live.ext (e₁.trans e₂).k) r r₂ fun q s₃ e₃ r₃ => h q s₃ ((e₁.trans e₂).trans e₃) r₃) (hs _ _)
theorem Ev.subT {value slice : Expr} {pos : Pos} {l : List PV} {i d : PV} (x : Ev C vals value (.tup l)) (y : Ev C vals slice i) (z : Op2 C getItem (.tup l) i d)
    (hs : ∀ o i, subscripted slice false o i = operate [o, i] (getItem o i) := by intro _ _; rfl) : Ev C vals (.Subscript value slice pos) d := .mk fun X s E Q F h => by
  refine Subscript_ (x.go X s E _ F fun v s₁ e₁ r₁ => y.go X s₁ E _ (F.ext e₁.k) fun w s₂ e₂ r₂ => ?_)
  have r := r₁.ext e₂.k
  have hT : s₂.TypeIs v "tuple" := by cases r with | tup _ ho _ => exact ⟨_, ho, rfl⟩
  exact tail_any hT PySem.F.slot_tuple_getitem.lookup (z.go X s₂ E _ v w (F.kp.ext (e₁.trans e₂).k) (F.live.ext (e₁.trans e₂).k) r r₂ fun q s₃ e₃ r₃ => h q s₃ ((e₁.trans e₂).trans e₃) r₃) (hs _ _)

/-- a bound of a slice -/
inductive EvO (C : Cx) (vals : List VV) : Option Expr → Option Int → Prop
  | none : EvO C vals none none
  | some {e : Expr} {i : Int} : Ev C vals e (.int i) → EvO C vals (some e) (some i)
theorem EvO.go {e : Option Expr} {i : Option Int} (x : EvO C vals e i) {X : List Addr} {s : Shared} {E : Value → Shared → Prop} {Q : Value → Shared → Prop} (F : FV C X vals s.heap)
    (h : ∀ v s', Ext s s' → IsPart v i → Q v s') : wpAny C.M C.A (evalPart e C.env) Q E s := by
  cases x with
  | none => exact wpAny_evalPart_none (h _ _ KB.refl .none)
  | some y => exact wpAny_evalPart_some (y.go X s E _ F fun v s' e r => h v s' e (by cases r; exact .int _ _))

/-- what a slice picks -/
noncomputable def pick {α : Type} (l : List α) (lo hi st : Option Int) : List α :=
  (sliceRange (sliceBounds lo hi st l.length).1 (sliceBounds lo hi st l.length).2.1 (sliceBounds lo hi st l.length).2.2).filterMap (l[·]?)
theorem RpL.some_iff {X : List Addr} {h : Heap} {vs : List Value} {ds : List PV} (r : RpL X h vs ds) (k : Nat) : (∃ v d, vs[k]? = some v ∧ ds[k]? = some d ∧ Rp X h v d) ∨ (vs[k]? = none ∧ ds[k]? = none) := by
  cases hv : vs[k]? with
  | some v => obtain ⟨d, hd, q⟩ := r.getV hv; exact .inl ⟨v, d, rfl, hd, q⟩
  | none =>
    refine .inr ⟨rfl, ?_⟩
    rw [List.getElem?_eq_none_iff] at hv ⊢
    rw [← r.length]; exact hv
theorem RpL.idx {X : List Addr} {h : Heap} {vs : List Value} {ds : List PV} (r : RpL X h vs ds) : ∀ ks : List Nat, RpL X h (ks.filterMap (vs[·]?)) (ks.filterMap (ds[·]?))
  | [] => .nil
  | k :: ks => by
    rcases r.some_iff k with ⟨v, d, hv, hd, q⟩ | ⟨hv, hd⟩
    · simp only [List.filterMap_cons, hv, hd]; exact .cons q (r.idx ks)
    · simp only [List.filterMap_cons, hv, hd]; exact r.idx ks
theorem RpL.pick {X : List Addr} {h : Heap} {vs : List Value} {ds : List PV} (r : RpL X h vs ds) (lo hi st : Option Int) : RpL X h (slicePick vs.toArray lo hi st).toList (Mine.pick ds lo hi st) := by
  unfold slicePick Mine.pick
  rw [← r.length]
  simpa using r.idx _
theorem Op2.sliceL {l : List PV} {lo hi st : Option Int} (h0 : st ≠ some 0) (hz : l.length ≤ sizeLine) {X : List Addr} {s : Shared} {E : Value → Shared → Prop} {Q : Value → Shared → Prop} {v : Value} {sl : Addr} {vl vu vs : Value}
    (hL : Live X s.heap) (ra : Rp X s.heap v (.lst l)) (hs : s.heap.get? sl = some { cls := .type "slice", data := .fields #[vl, vu, vs] }) (p1 : IsPart vl lo) (p2 : IsPart vu hi) (p3 : IsPart vs st)
    (h : ∀ r s', Ext s s' → Rp X s'.heap r (.lst (pick l lo hi st)) → Q r s') : wpAny C.M C.A (getItem v (.ref sl)) Q E s := by
  cases ra with | lst a1 ho r1 =>
  rename_i a ws n
  refine wpAny_getItem_list_slice (items := ws.toArray) ⟨_, ho, rfl, _, rfl⟩ ⟨_, hs, rfl, rfl⟩ p1 p2 p3 h0 ?_ (by simpa [r1.length] using hz)
  have e : slicePick ws.toArray lo hi st = (slicePick ws.toArray lo hi st).toList.toArray := by simp
  rw [e]
  exact h _ _ Ext.push (.lst (n := 0) (hL.new get_size) (Heap.get?_push_size _ rfl) ((r1.pick lo hi st).ext (KB.k Ext.push)))

theorem Ev.sliceL {value : Expr} {lo hi st : Option Expr} {p pos : Pos} {l : List PV} {a b c : Option Int} (x : Ev C vals value (.lst l)) (y1 : EvO C vals lo a) (y2 : EvO C vals hi b) (y3 : EvO C vals st c) (h0 : c ≠ some 0) (hz : l.length ≤ sizeLine)
    (hs : ∃ ops : Value → Value → List Value, ∀ o i, subscripted (.Slice lo hi st p) false o i = operate (ops o i) (getItem o i) := by exact ⟨_, fun _ _ => rfl⟩) : Ev C vals (.Subscript value (.Slice lo hi st p) pos) (.lst (pick l a b c)) := .mk fun X s E Q F h => by
  obtain ⟨ops, hs⟩ := hs
  refine Subscript_ (x.go X s E _ F fun v s₁ e₁ r₁ => wpAny_Slice (y1.go (F.ext e₁.k) fun v1 s₂ e₂ q1 => y2.go (F.ext (e₁.trans e₂).k) fun v2 s₃ e₃ q2 => y3.go (F.ext ((e₁.trans e₂).trans e₃).k) fun v3 s₄ e₄ q3 => ?_))
  have eA := ((e₁.trans e₂).trans e₃).trans e₄
  have r := r₁.ext (((e₂.trans e₃).trans e₄).trans (Ext.push (o := { cls := .type "slice", data := .fields #[v1, v2, v3] }))).k
  have hT : Shared.TypeIs { s₄ with heap := s₄.heap.push { cls := .type "slice", data := .fields #[v1, v2, v3] } } v "list" := by cases r with | lst _ ho _ => exact ⟨_, ho, rfl⟩
  exact tail_any hT PySem.F.slot_list_getitem.lookup (Op2.sliceL (C := C) h0 hz (F.live.ext (eA.trans Ext.push).k) r (Heap.get?_push_size _ rfl) q1 q2 q3 fun q s₅ e₅ r₅ => h q s₅ ((eA.trans Ext.push).trans e₅) r₅) (hs _ _)

theorem Ev.sliceS {value : Expr} {lo hi : Option Expr} {p pos : Pos} {t : Str} {a b : Option Int} (x : Ev C vals value (.str t)) (y1 : EvO C vals lo a) (y2 : EvO C vals hi b) (hz : t.length ≤ sizeLine)
    (hs : ∃ ops : Value → Value → List Value, ∀ o i, subscripted (.Slice lo hi Option.none p) false o i = operate (ops o i) (getItem o i) := by exact ⟨_, fun _ _ => rfl⟩) : Ev C vals (.Subscript value (.Slice lo hi Option.none p) pos) (.str (Txt.slice t a b)) := .mk fun X s E Q F h => by
  obtain ⟨ops, hs⟩ := hs
  refine Subscript_ (x.go X s E _ F fun v s₁ e₁ r₁ => wpAny_Slice (y1.go (F.ext e₁.k) fun v1 s₂ e₂ q1 => y2.go (F.ext (e₁.trans e₂).k) fun v2 s₃ e₃ q2 => wpAny_evalPart_none ?_))
  have eA := (e₁.trans e₂).trans e₃
  cases r₁ with | str _ tk =>
  have kept : KeptH (fun h => ∀ b o, s₃.heap.get? b = some o → h.get? b = some o) := fun _ ob k b o e => Heap.get?_push_of_some _ (k b o e)
  have fin : ∀ (h' : Heap) (t' : Tok) (k : Nat), (∀ b o, s₃.heap.get? b = some o → h'.get? b = some o) → Q (.str (Txt.slice t a b) t') { s₃ with heap := h', toks := k } := fun h' t' k kk => h _ _ (eA.trans (Ext.of kk)) (.str _ _)
  have key : ItemOn C.M C.A E (.str t tk) (.ref s₃.heap.objs.size) Q { s₃ with heap := s₃.heap.push { cls := .type "slice", data := .fields #[v1, v2, .none] } } := by
    cases q1 with
    | none => cases q2 with
      | none => exact SBH.sliceItem_nn kept (fun _ _ e => e) fin hz
      | int j tj => exact SBH.sliceItem_ns kept (fun _ _ e => e) fin hz
    | int i ti => cases q2 with
      | none => exact SBH.sliceItem_sn kept (fun _ _ e => e) fin hz
      | int j tj => exact SBH.sliceItem_ss kept (fun _ _ e => e) fin hz
  obtain ⟨T, id, hl, hT, hg⟩ := key
  exact tail_any hT hl hg (hs _ _)

/-- a call of a value -/
structure CallOK (C : Cx) (f : Value) (ds : List PV) (d : PV) : Prop where
  go : ∀ (X : List Addr) (s : Shared) (E : Value → Shared → Prop) (Q : Value → Shared → Prop) (vs : List Value), Kp C.hT s.heap → Live X s.heap → RpL X s.heap vs ds →
    (∀ r s', Ext s s' → Rp X s'.heap r d → Q r s') → wpAny C.M C.A (call f vs) Q E s

/-- the globals -/
structure Gl (C : Cx) (mg mb : Str → Option Value) : Prop where
  g : C.hT.Ns mainGlobals mg
  b : C.hT.Ns builtinsNs mb
  eg : C.env.globals = mainGlobals
  eb : C.env.builtins = builtinsNs
/-- a global name's value -/
structure GV (C : Cx) (x : Str) (v : Value) : Prop where
  go : ∀ (pos : Pos) (X : List Addr) (s : Shared) (E : Value → Shared → Prop) (Q : Value → Shared → Prop), FV C X vals s.heap → Q v s → wpAny C.M C.A (eval (.Name x pos) C.env) Q E s
theorem Gl.glob {mg mb : Str → Option Value} {x : Str} {v : Value} (G : Gl C mg mb) (hx : C.env.kindOf x = some .globalImplicit) (hv : mg x = some v) (hd : (x == ("__debug__" : Str)) = false) : GV (vals := vals) C x v := .mk fun pos X s E Q F h =>
  Name_function_global F.kind hx (loadGlobal_global (by rw [G.eg]; exact G.g.keeps F.kp) hv h) hd
theorem Gl.built {mg mb : Str → Option Value} {x : Str} {v : Value} (G : Gl C mg mb) (hx : C.env.kindOf x = some .globalImplicit) (hn : mg x = none) (hv : mb x = some v) (hd : (x == ("__debug__" : Str)) = false) : GV (vals := vals) C x v := .mk fun pos X s E Q F h =>
  Name_function_global F.kind hx (loadGlobal_builtin (by rw [G.eg]; exact G.g.keeps F.kp) hn (by rw [G.eb]; exact G.b.keeps F.kp) hv h) hd

theorem Ev.callB {x : Str} {np pos : Pos} {e : Expr} {rest : List Expr} {id : String} {ds : List PV} {d : PV} (g : GV (vals := vals) C x (.builtin id)) (y : EvL C vals (e :: rest) ds) (z : CallOK C (.builtin id) ds d)
    (he : starEach (e :: rest) C.env = (false, eval e C.env) :: starEach rest C.env := by rfl) (hplain : (backTo pos (starEach rest C.env)).any (·.1) = false := by rfl) : Ev C vals (.Call (.Name x np) (e :: rest) [] pos) d := .mk fun X s E Q F h => by
  refine wpAny_Call_NameR (g.go np X s E _ F (callWith_builtin1 (y.go pos X s E _ F fun vs s₁ e₁ r₁ => z.go X s₁ E _ vs (F.kp.ext e₁.k) (F.live.ext e₁.k) r₁ fun r s₂ e₂ r₂ => h r s₂ (e₁.trans e₂) r₂) he hplain))
theorem Ev.callT {x : Str} {np pos : Pos} {e : Expr} {rest : List Expr} {T : String} {ds : List PV} {d : PV} (g : GV (vals := vals) C x (.type T)) (y : EvL C vals (e :: rest) ds) (z : CallOK C (.type T) ds d)
    (he : starEach (e :: rest) C.env = (false, eval e C.env) :: starEach rest C.env := by rfl) (hplain : (backTo pos (starEach rest C.env)).any (·.1) = false := by rfl) : Ev C vals (.Call (.Name x np) (e :: rest) [] pos) d := .mk fun X s E Q F h => by
  refine wpAny_Call_NameR (g.go np X s E _ F (PyProof.Rows.callWith_type1 (y.go pos X s E _ F fun vs s₁ e₁ r₁ => z.go X s₁ E _ vs (F.kp.ext e₁.k) (F.live.ext e₁.k) r₁ fun r s₂ e₂ r₂ => h r s₂ (e₁.trans e₂) r₂) he hplain))
theorem Ev.callF {x : Str} {np pos : Pos} {e : Expr} {rest : List Expr} {f : Addr} {o : Obj} {fd : FuncData} {ds : List PV} {d : PV} (g : GV (vals := vals) C x (.ref f)) (ho : C.hT.get? f = some o) (hd : o.data = .func fd) (y : EvL C vals (e :: rest) ds) (z : CallOK C (.ref f) ds d)
    (he : starEach (e :: rest) C.env = (false, eval e C.env) :: starEach rest C.env := by rfl) : Ev C vals (.Call (.Name x np) (e :: rest) [] pos) d := .mk fun X s E Q F h => by
  refine wpAny_Call_NameR (g.go np X s E _ F (callWith_def hd (y.go pos X s E _ F fun vs s₁ e₁ r₁ => ⟨e₁.k _ _ (F.kp _ _ ho), z.go X s₁ E _ vs (F.kp.ext e₁.k) (F.live.ext e₁.k) r₁ fun r s₂ e₂ r₂ => h r s₂ (e₁.trans e₂) r₂⟩) he))
/-- a method of a built-in type -/
theorem Ev.meth {o : Expr} {name : Str} {apos pos : Pos} {e : Expr} {rest : List Expr} {T id : String} {a : PV} {ds : List PV} {d : PV} (x : Ev C vals o a) (y : EvL C vals (e :: rest) ds) (z : CallOK C (.builtin id) (a :: ds) d)
    (hty : ∀ (X : List Addr) (s : Shared) (v : Value), Rp X s.heap v a → s.TypeIs v T ∧ (∀ b, v = .ref b → ∃ ob : Obj, s.heap.get? b = Option.some ob ∧ ob.dict = Option.none))
    (pa : PlainAttrs T) (slot : Slot T name id) (hm : typeOf (.builtin id) = pure (.type "method_descriptor"))
    (hbase : attributeBase o name C.env (eval o C.env) = eval o C.env := by rfl)
    (hfew : ((backTo pos (starEach (e :: rest) C.env)).all (fun x => !x.1) && (backToKw pos (keywordEach [] C.env)).all (fun x => x.1.isSome) && decide ((e :: rest).length + ([] : List Keyword).length + (if ([] : List Keyword).isEmpty then 0 else 1) < 30)) = true := by rfl)
    (hline : (apos.endLine == pos.line) = true := by rfl)
    (he : starEach (e :: rest) C.env = (false, eval e C.env) :: starEach rest C.env := by rfl) (hplain : (backTo pos (starEach rest C.env)).any (·.1) = false := by rfl) : Ev C vals (.Call (.Attribute o name apos) (e :: rest) [] pos) d := .mk fun X s E Q F h => by
  refine wpAny_Call_method hbase hfew hline pa slot hm (x.go X s E _ F fun v s₁ e₁ r₁ => ⟨(hty X s₁ v r₁).1, (hty X s₁ v r₁).2, ?_⟩)
  exact callWith_method1 (y.go pos X s₁ E _ (F.ext e₁.k) fun vs s₂ e₂ r₂ => z.go X s₂ E _ (v :: vs) (F.kp.ext (e₁.trans e₂).k) (F.live.ext (e₁.trans e₂).k) (.cons (r₁.ext e₂.k) r₂) fun r s₃ e₃ r₃ => h r s₃ ((e₁.trans e₂).trans e₃) r₃) he hplain
theorem ty_str {x : Str} : ∀ (X : List Addr) (s : Shared) (v : Value), Rp X s.heap v (.str x) → s.TypeIs v "str" ∧ (∀ b, v = .ref b → ∃ ob : Obj, s.heap.get? b = Option.some ob ∧ ob.dict = Option.none) := fun X s v r => by
  cases r; exact ⟨typeIs_str _ _ _, fun b e => by cases e⟩
theorem ty_list {l : List PV} : ∀ (X : List Addr) (s : Shared) (v : Value), Rp X s.heap v (.lst l) → s.TypeIs v "list" ∧ (∀ b, v = .ref b → ∃ ob : Obj, s.heap.get? b = Option.some ob ∧ ob.dict = Option.none) := fun X s v r => by
  cases r with | lst a ho r => exact ⟨⟨_, ho, rfl⟩, fun b e => by cases e; exact ⟨_, ho, rfl⟩⟩
/-- a value as a test -/
theorem Ts.val {e : Expr} {b : Bool} (x : Ev C vals e (.bool b)) (he : isTrue e C.env (eval e C.env) = (do let v ← eval e C.env; standAt e.pos; holding [v] (truthy v)) := by rfl) : Ts C vals e b := .mk fun X s E Q F h => by
  refine wpAny_isTrue_value (x.go X s E _ F fun v s₁ e₁ r => ?_) he
  cases r
  exact wpAny_truthy_bool (h _ e₁)
end
end Mine
end
section
open PySem PySem.W PyProof.Rows PySem.Calls
namespace Mine

/-- a frame: what may change is Mt -/
structure FS (C : Cx) (Mt X : List Addr) (vals : List VV) (h : Heap) : Prop where
  fv : FV C X vals h
  sub : ∀ a ∈ Mt, a ∈ X
  top : ∀ a ∈ Mt, C.hT.get? a = none
  loc : C.env.locals ∈ Mt
  cel : ∀ x c, C.env.cells.lookup x = some c → c ∈ Mt ∨ c ∈ C.fix
  fxl : Live C.fix h
  fxm : ∀ a ∈ C.fix, a ∉ Mt
  nsx : ∃ m, h.Ns C.env.locals m
  cell : ∀ x c, C.env.cells.lookup x = some c → ∃ v, h.IsCell c v
  apart : C.fix = [] → ∀ x y c, C.env.cells.lookup x = some c → C.env.cells.lookup y = some c → x = y
  kinds : ∀ x ∈ C.ns, C.env.kindOf x = some .local ∨ (C.env.kindOf x = some .cell ∧ ∃ c, C.env.cells.lookup x = some c)
  nd : C.ns.Nodup
  om : ∀ (i : Nat) (a : Addr) (l : List PV), vals[i]? = some (.o a l) → a ∈ Mt

inductive Out where
  | next (vals : List VV)
  | brk (vals : List VV)
  | ret (d : PV)

noncomputable def less (X Mt : List Addr) : List Addr := X.filter fun a => decide (a ∉ Mt)
theorem mem_less {X Mt : List Addr} {a : Addr} : a ∈ less X Mt ↔ a ∈ X ∧ a ∉ Mt := by simp [less]

noncomputable def Out.ok (C : Cx) (Mt X : List Addr) : Out → Flow → Shared → Prop
  | .next vals, f, s => f = .next ∧ FS C Mt X vals s.heap
  | .brk vals, f, s => f = .brk ∧ FS C Mt X vals s.heap
  | .ret d, f, s => ∃ v, f = .ret v ∧ Rp (less X Mt) s.heap v d

structure Ex (C : Cx) (Mt : List Addr) (ss : List Stmt) (vals : List VV) (out : Out) : Prop where
  go : ∀ (X : List Addr) (s : Shared) (E : Value → Shared → Prop) (Q : Flow → Shared → Prop), FS C Mt X vals s.heap →
    (∀ f s', KB Mt [] s s' → out.ok C Mt X f s' → Q f s') → wpAny C.M C.A (execs ss C.env) Q E s
/-- one statement -/
structure Ex1 (C : Cx) (Mt : List Addr) (st : Stmt) (vals : List VV) (out : Out) : Prop where
  go : ∀ (X : List Addr) (s : Shared) (E : Value → Shared → Prop) (Q : Flow → Shared → Prop), FS C Mt X vals s.heap →
    (∀ f s', KB Mt [] s s' → out.ok C Mt X f s' → Q f s') → wpAny C.M C.A (exec st C.env) Q E s

theorem ns_fun {h : Heap} {L : Addr} {m m' : Str → Option Value} (a : h.Ns L m) (b : h.Ns L m') : m = m' := by
  obtain ⟨o, es, ep, e1, d1, _, f1⟩ := a
  obtain ⟨o', es', ep', e2, d2, _, f2⟩ := b
  rw [e1] at e2; cases e2
  rw [d1] at d2; cases d2
  funext x
  rw [← f1 x, ← f2 x]

section
variable {C : Cx} {vals : List VV} {Mt X : List Addr}

theorem FS.ext {h h' : Heap} (F : FS C Mt X vals h) (hk : ∀ a o, h.get? a = some o → h'.get? a = some o) : FS C Mt X vals h' :=
  ⟨F.fv.ext hk, F.sub, F.top, F.loc, F.cel, F.fxl.ext hk, F.fxm, let ⟨m, x⟩ := F.nsx; ⟨m, x.keeps hk⟩, fun x c e => let ⟨v, y⟩ := F.cell x c e; ⟨v, y.keeps hk⟩, F.apart, F.kinds, F.nd, F.om⟩

theorem cell_ne_loc {h : Heap} {L c : Addr} {m : Str → Option Value} {v : Option Value} (a : h.Ns L m) (b : h.IsCell c v) : c ≠ L := by
  rintro rfl
  obtain ⟨o, es, ep, e1, d1, _⟩ := a
  obtain ⟨o', e2, d2⟩ := b
  rw [e1] at e2; cases e2
  rw [d1] at d2; cases d2

theorem nodup_idx {l : List Str} (hn : l.Nodup) {i j : Nat} {x : Str} (hi : l[i]? = some x) (hj : l[j]? = some x) : i = j := by
  induction l generalizing i j with
  | nil => simp at hi
  | cons a l ih =>
    obtain ⟨h1, h2⟩ := List.nodup_cons.mp hn
    cases i with
    | zero => cases j with
      | zero => rfl
      | succ j =>
        simp only [List.getElem?_cons_zero, List.getElem?_cons_succ] at hi hj
        cases hi
        exact absurd (List.mem_of_getElem? hj) h1
    | succ i => cases j with
      | zero =>
        simp only [List.getElem?_cons_zero, List.getElem?_cons_succ] at hi hj
        cases hj
        exact absurd (List.mem_of_getElem? hi) h1
      | succ j =>
        simp only [List.getElem?_cons_succ] at hi hj
        rw [ih h2 hi hj]

/-- storing a value -/
theorem FS.storeZ {s : Shared} {E : Value → Shared → Prop} {Q : Unit → Shared → Prop} {i : Nat} {x : Str} {v : Value} {y : VV} (F : FS C Mt X vals s.heap) (hi : C.ns[i]? = some x) (r : Rv X s.heap v y) (hy : ∀ a l, y = .o a l → a ∈ Mt) (hw : C.env.kindOf x = some .local ∨ C.fix = [])
    (h : ∀ s', KB Mt [] s s' → FS C Mt X (vals.set i y) s'.heap → s'.heap.objs.size = s.heap.objs.size → Q () s') : wpAny C.M C.A (storeName C.env x v) Q E s := by
  obtain ⟨m₀, hn₀⟩ := F.nsx
  -- what holds of any heap that differs at one address of Mt only
  have main : ∀ (a : Addr) (h' : Heap) (tk : Nat), a ∈ Mt → Heap.SameBut a s.heap h' → (∃ o, h'.get? a = some o) → (∃ m, h'.Ns C.env.locals m) → (∀ z c, C.env.cells.lookup z = some c → ∃ v, h'.IsCell c v) → Vr C.env h' x v →
      (∀ z w, z ≠ x → Vr C.env s.heap z w → Vr C.env h' z w) → (∀ vs n, s.heap.get? a ≠ some (lstO vs n)) → Q () { s with heap := h', toks := tk } := by
    intro a h' tk ha hs hlv hns hcl hvr hoth hown
    have kb : KB Mt [] s { s with heap := h', toks := tk } := KB.of fun b o hb e => (hs.2 b (fun z => hb (z ▸ ha))).trans e
    have rk : ∀ {w : Value} {d : PV}, Rp X s.heap w d → Rp X h' w d := fun q => q.keep fun b o hb e => (hs.2 b (fun z => hb (z ▸ F.sub a ha))).trans e
    have rkl : ∀ {w : List Value} {d : List PV}, RpL X s.heap w d → RpL X h' w d := fun q => q.keep fun b o hb e => (hs.2 b (fun z => hb (z ▸ F.sub a ha))).trans e
    have rv : ∀ {w : Value} {d : VV}, Rv X s.heap w d → Rv X h' w d := fun q => by
      cases q with
      | p q => exact .p (rk q)
      | o ha' e' r' => exact .o ha' ((hs.2 _ (fun z => hown _ _ (z ▸ e'))).trans e') (rkl r')
    refine h _ kb ⟨⟨fun b o e => ?_, fun b hb => ?_, F.fv.kind, F.fv.dbg, fun j z y' hj hv hu => ?_⟩, F.sub, F.top, F.loc, F.cel, fun b hb => ?_, F.fxm, hns, hcl, F.apart, F.kinds, F.nd, fun j a l hv => ?_⟩ hs.1
    · exact (hs.2 b (fun z => by rw [z, F.top a ha] at e; cases e)).trans (F.fv.kp b o e)
    · by_cases hb' : b = a
      · rw [hb']; exact hlv
      · obtain ⟨o, e⟩ := F.fv.live b hb
        exact ⟨o, (hs.2 b hb').trans e⟩
    · by_cases hij : j = i
      · subst hij
        rw [hi] at hj; cases hj
        have : (vals.set j y)[j]? = some y' ∧ y' = y := by
          refine ⟨hv, ?_⟩
          rw [List.getElem?_set] at hv
          simp only [if_true] at hv
          split at hv
          · exact (Option.some.inj hv).symm
          · cases hv
        rw [this.2]
        exact ⟨v, hvr, rv r⟩
      · rw [List.getElem?_set_ne (Ne.symm hij)] at hv
        obtain ⟨w, hw, q⟩ := F.fv.var j z y' hj hv hu
        have hzx : z ≠ x := fun e => hij (nodup_idx F.nd (e ▸ hj) hi)
        exact ⟨w, hoth z w hzx hw, rv q⟩
    · obtain ⟨o, e⟩ := F.fxl b hb
      exact ⟨o, (hs.2 b (fun z => F.fxm b hb (z ▸ ha))).trans e⟩
    · by_cases hij : i = j
      · subst hij
        rw [List.getElem?_set] at hv
        simp only [if_true] at hv
        split at hv
        · exact hy a l (Option.some.inj hv)
        · cases hv
      · rw [List.getElem?_set_ne hij] at hv
        exact F.om j a l hv
  rcases F.kinds x (List.mem_of_getElem? hi) with hk | ⟨hk, c, hc⟩
  · refine wpAny_storeName_local hk hn₀ (fun h' hn hs => main _ h' _ F.loc hs (let ⟨o, _, _, e, _⟩ := hn; ⟨o, e⟩) ⟨_, hn⟩ (fun z c hc => ?_) (.inl ⟨hk, _, hn, by simp⟩) (fun z w hzx hw => ?_) fun vs n e => ?_) (by rw [F.fv.kind]; rfl)
    · obtain ⟨v', hv'⟩ := F.cell z c hc
      exact ⟨v', hv'.sameBut hs (cell_ne_loc hn₀ hv')⟩
    · rcases hw with ⟨k, m, hm, e⟩ | ⟨k, c, hc, hv'⟩
      · refine .inl ⟨k, _, hn, ?_⟩
        rw [if_neg hzx, ns_fun hn₀ hm]; exact e
      · exact .inr ⟨k, c, hc, hv'.sameBut hs (cell_ne_loc hn₀ hv')⟩
    · obtain ⟨o1, es, ep, q1, q2, _⟩ := hn₀
      rw [e] at q1; cases q1; cases q2
  · obtain ⟨v₀, hv₀⟩ := F.cell x c hc
    refine wpAny_storeName_cell F.fv.kind hk hc hv₀ fun h' hv' hs => ?_
    have hcM : c ∈ Mt := (F.cel x c hc).resolve_right fun q => by
      rcases hw with hw | hw
      · rw [hk] at hw; cases hw
      · rw [hw] at q; cases q
    have := main c h' s.toks hcM hs (let ⟨o, e, _⟩ := hv'; ⟨o, e⟩) ⟨m₀, hn₀.sameBut hs (cell_ne_loc hn₀ hv₀).symm⟩ (fun z c' hc' => ?_) (.inr ⟨hk, c, hc, hv'⟩) (fun z w hzx hw => ?_) (fun vs n e => ?_)
    · exact this
    · by_cases e : c' = c
      · exact ⟨_, e ▸ hv'⟩
      · obtain ⟨v1, q⟩ := F.cell z c' hc'
        exact ⟨v1, q.sameBut hs e⟩
    · rcases hw with ⟨k, m, hm, e⟩ | ⟨k, c', hc', q⟩
      · exact .inl ⟨k, m, hm.sameBut hs (cell_ne_loc hm hv₀).symm, e⟩
      · exact .inr ⟨k, c', hc', q.sameBut hs fun e => hzx (F.apart (hw.resolve_left fun q => by rw [hk] at q; cases q) z x c (e ▸ hc') hc)⟩
    · obtain ⟨o1, q1, q2⟩ := hv₀
      rw [e] at q1; cases q1; cases q2

theorem FS.store {s : Shared} {E : Value → Shared → Prop} {Q : Unit → Shared → Prop} {i : Nat} {x : Str} {v : Value} {y : VV} (F : FS C Mt X vals s.heap) (hi : C.ns[i]? = some x) (r : Rv X s.heap v y) (hy : ∀ a l, y = .o a l → a ∈ Mt) (hw : C.env.kindOf x = some .local ∨ C.fix = [])
    (h : ∀ s', KB Mt [] s s' → FS C Mt X (vals.set i y) s'.heap → Q () s') : wpAny C.M C.A (storeName C.env x v) Q E s := F.storeZ hi r hy hw fun s' k F' _ => h s' k F'

theorem Ex.nil : Ex C Mt [] vals (.next vals) := .mk fun X s E Q F h => wpAny_execs_nil (h _ _ KB.refl ⟨rfl, F⟩)
theorem KB.fs {s s' : Shared} (k : KB Mt [] s s') : True := trivial
theorem Ex.seq {st : Stmt} {rest : List Stmt} {v1 : List VV} {out : Out} (x : Ex1 C Mt st vals (.next v1)) (y : Ex C Mt rest v1 out) : Ex C Mt (st :: rest) vals out := .mk fun X s E Q F h => by
  refine wpAny_execs_cons (x.go X s E _ F fun f s₁ k₁ o₁ => ?_)
  obtain ⟨rfl, F₁⟩ := o₁
  exact y.go X s₁ E _ F₁ fun f s₂ k₂ o₂ => h f s₂ (k₁.trans k₂) o₂
/-- a statement that leaves -/
theorem Ex.last {st : Stmt} {rest : List Stmt} {out : Out} (x : Ex1 C Mt st vals out) (hn : ∀ v, out ≠ .next v) : Ex C Mt (st :: rest) vals out := .mk fun X s E Q F h => by
  refine wpAny_execs_cons (x.go X s E _ F fun f s₁ k₁ o₁ => ?_)
  cases out with
  | next v => exact absurd rfl (hn v)
  | brk v => obtain ⟨rfl, F₁⟩ := o₁; exact h _ _ k₁ ⟨rfl, F₁⟩
  | ret d => obtain ⟨v, rfl, r⟩ := o₁; exact h _ _ k₁ ⟨v, rfl, r⟩
theorem Ex.one {st : Stmt} {out : Out} (x : Ex1 C Mt st vals out) : Ex C Mt [st] vals out := by
  cases out with
  | next v => exact Ex.seq x Ex.nil
  | brk v => exact Ex.last x (fun _ e => nomatch e)
  | ret d => exact Ex.last x (fun _ e => nomatch e)
theorem Ex1.asg {x : Str} {np pos : Pos} {e : Expr} {d : PV} (i : Nat) (y : Ev C vals e d) (hi : C.ns[i]? = some x) (hw : C.env.kindOf x = some .local ∨ C.fix = [] := by exact .inr rfl) (hs : swapsWith e (some (.Name x np)) pos.line C.env = pure false := by rfl) : Ex1 C Mt (.Assign [.Name x np] e pos) vals (.next (vals.set i (.p d))) := .mk fun X s E Q F h => by
  refine wpAny_Assign_Name (y.go X s E _ F.fv fun v s₁ e₁ r₁ => (F.ext e₁.k).store hi (.p r₁) (fun _ _ e => nomatch e) hw fun s₂ k₂ F₂ => ?_) hs
  exact h _ _ ((KB.wide e₁).trans k₂) ⟨rfl, F₂⟩
theorem Ex1.aug {x : Str} {np pos : Pos} {op : Operator} {e : Expr} {a b d : PV} (i : Nat) (hi : C.ns[i]? = some x) (hv : vals[i]? = some (.p a)) (y : Ev C vals e b) (z : Op2 C (inplaceOp op) a b d) (hw : C.env.kindOf x = some .local ∨ C.fix = [] := by exact .inr rfl) : Ex1 C Mt (.AugAssign (.Name x np) op e pos) vals (.next (vals.set i (.p d))) := .mk fun X s E Q F h => by
  refine wpAny_AugAssign_Name (F.fv.load hi hv fun v r => y.go X s E _ F.fv fun w s₁ e₁ r₁ => z.go X s₁ E _ v w (F.fv.kp.ext e₁.k) (F.fv.live.ext e₁.k) (r.ext e₁.k) r₁ fun q s₂ e₂ r₂ => (F.ext (e₁.trans e₂).k).store hi (.p r₂) (fun _ _ e => nomatch e) hw fun s₃ k₃ F₃ => ?_)
  exact h _ _ ((KB.wide (e₁.trans e₂)).trans k₃) ⟨rfl, F₃⟩
theorem Ex1.ret {pos : Pos} {e : Expr} {d : PV} (y : Ev C vals e d) : Ex1 C Mt (.Return (some e) pos) vals (.ret d) := .mk fun X s E Q F h =>
  wpAny_Return_some (y.go X s E _ F.fv fun v s₁ e₁ r₁ => h _ _ (KB.wide e₁) ⟨v, rfl, r₁.sub fun a ha => (mem_less.mp ha).1⟩)
theorem Ex1.brk {pos : Pos} : Ex1 C Mt (.Break pos) vals (.brk vals) := .mk fun X s E Q F h => wpAny_Break (h _ _ KB.refl ⟨rfl, F⟩)
theorem Ex1.ifs {t : Expr} {body orelse : List Stmt} {pos : Pos} {b : Bool} {out : Out} (x : Ts C vals t b) (y : b = true → Ex C Mt body vals out) (z : b = false → Ex C Mt orelse vals out) : Ex1 C Mt (.If t body orelse pos) vals out := .mk fun X s E Q F h => by
  refine wpAny_If (x.go X s E _ F.fv fun s₁ e₁ => ?_)
  cases b with
  | true => exact (y rfl).go X s₁ E _ (F.ext e₁.k) fun f s₂ k₂ o₂ => h f s₂ ((KB.wide e₁).trans k₂) o₂
  | false => exact (z rfl).go X s₁ E _ (F.ext e₁.k) fun f s₂ k₂ o₂ => h f s₂ ((KB.wide e₁).trans k₂) o₂
theorem Ex.cast {ss : List Stmt} {o o' : Out} (x : Ex C Mt ss vals o) (e : o = o') : Ex C Mt ss vals o' := e ▸ x
theorem Ex1.cast {ss : Stmt} {o o' : Out} (x : Ex1 C Mt ss vals o) (e : o = o') : Ex1 C Mt ss vals o' := e ▸ x
theorem execs_append (l rest : List Stmt) (env : Env) : execs (l ++ rest) env = (execs l env >>= fun f => match f with | .next => execs rest env | f => pure f) := by
  induction l with
  | nil => rw [List.nil_append]; simp only [execs, pure_bind]
  | cons st l ih =>
    rw [List.cons_append]
    simp only [execs, bind_assoc]
    congr 1
    funext f
    cases f with
    | next => exact ih
    | brk => simp
    | cont => simp
    | ret v => simp
theorem execs_if {t : Expr} {body orelse rest : List Stmt} {pos : Pos} {env : Env} : execs (.If t body orelse pos :: rest) env = (do standAt pos; if ← isTrue t env (eval t env) then execs (body ++ rest) env else execs (orelse ++ rest) env) := by
  simp only [execs, exec_If, bind_assoc, execs_append]
  congr 1
  funext _
  congr 1
  funext b
  cases b <;> rfl
/-- an if with what stands behind it -/
theorem Ex.ifs {t : Expr} {body orelse rest : List Stmt} {pos : Pos} {b : Bool} {out : Out} (x : Ts C vals t b) (y : b = true → Ex C Mt (body ++ rest) vals out) (z : b = false → Ex C Mt (orelse ++ rest) vals out) : Ex C Mt (.If t body orelse pos :: rest) vals out := .mk fun X s E Q F h => by
  rw [execs_if]
  refine wpAny_bind (wpAny_standAt (wpAny_bind (x.go X s E _ F.fv fun s₁ e₁ => ?_)))
  cases b with
  | true => exact (y rfl).go X s₁ E _ (F.ext e₁.k) fun f s₂ k₂ o₂ => h f s₂ ((KB.wide e₁).trans k₂) o₂
  | false => exact (z rfl).go X s₁ E _ (F.ext e₁.k) fun f s₂ k₂ o₂ => h f s₂ ((KB.wide e₁).trans k₂) o₂

/-- binding a loop's target -/
structure Asg (C : Cx) (Mt : List Addr) (target : Expr) (d : PV) (vals vals' : List VV) : Prop where
  go : ∀ (X : List Addr) (s : Shared) (E : Value → Shared → Prop) (Q : Unit → Shared → Prop) (v : Value), FS C Mt X vals s.heap → Rp X s.heap v d →
    (∀ s', KB Mt [] s s' → FS C Mt X vals' s'.heap → Q () s') → wpAny C.M C.A (assign target C.env v) Q E s
theorem Asg.name {x : Str} {pos : Pos} {d : PV} (i : Nat) (hi : C.ns[i]? = some x) (hw : C.env.kindOf x = some .local ∨ C.fix = [] := by exact .inr rfl) : Asg C Mt (.Name x pos) d vals (vals.set i (.p d)) := .mk fun X s E Q v F r h =>
  wpAny_assign_Name (F.store hi (.p r) (fun _ _ e => nomatch e) hw h)
/-- a pair unpacked -/
theorem FS.pair {s : Shared} {E : Value → Shared → Prop} {Q : Unit → Shared → Prop} {x y : Str} {px py pos : Pos} {k : Nat} {a b : PV} {t : Addr} {v1 v2 : Value} (i j : Nat) (hh : C.A.handled = none) (F : FS C Mt X vals s.heap) (ho : s.heap.IsTuple t [v1, v2].toArray) (r1 : Rp X s.heap v1 a) (r2 : Rp X s.heap v2 b) (hi : C.ns[i]? = some x) (hj : C.ns[j]? = some y) (hw1 : C.env.kindOf x = some .local ∨ C.fix = []) (hw2 : C.env.kindOf y = some .local ∨ C.fix = [])
    (h : ∀ s', KB Mt [] s s' → FS C Mt X ((vals.set i (.p a)).set j (.p b)) s'.heap → Q () s') : wpAny C.M C.A (assign (.Tuple [.Name x px, .Name y py] k pos) C.env (.ref t)) Q E s := by
  refine wpAny_assign_Tuple hh (t := t) (items := [v1, v2].toArray) ho rfl rfl fun h' he => ?_
  have e1 : Ext s { s with heap := h' } := ⟨fun b o _ e => he b o (Nat.ne_of_lt (Heap.lt_size e)) e, fun _ _ _ e => e, id, rfl⟩
  refine wpAny_assignInOrder_more ?_
  refine wpAny_assign_Name ((F.ext e1.k).store hi (.p (r1.ext e1.k)) (fun _ _ e => nomatch e) hw1 fun s₂ k₂ F₂ => ?_)
  refine wpAny_assignInOrder_more ?_
  have r2' : Rp X s₂.heap v2 b := (r2.ext e1.k).keep fun b o hb e => k₂.keep b o (fun hm => hb (F.sub b hm)) e
  refine wpAny_assign_Name (F₂.store hj (.p r2') (fun _ _ e => nomatch e) hw2 fun s₃ k₃ F₃ => wpAny_assignInOrder_none (h _ (((KB.wide e1).trans k₂).trans k₃) F₃))
theorem Asg.pair {x y : Str} {px py pos : Pos} {k : Nat} {a b : PV} (i j : Nat) (hh : C.A.handled = none) (hi : C.ns[i]? = some x) (hj : C.ns[j]? = some y) (hw1 : C.env.kindOf x = some .local ∨ C.fix = [] := by exact .inr rfl) (hw2 : C.env.kindOf y = some .local ∨ C.fix = [] := by exact .inr rfl) : Asg C Mt (.Tuple [.Name x px, .Name y py] k pos) (.tup [a, b]) vals ((vals.set i (.p a)).set j (.p b)) := .mk fun X s E Q v F r h => by
  cases r with | tup ha ho r =>
  cases r with | cons r1 r' =>
  cases r' with | cons r2 r'' =>
  cases r''
  rename_i t n v1 v2
  refine wpAny_assign_Tuple hh (t := t) (items := [v1, v2].toArray) ⟨_, ho, rfl, _, rfl⟩ rfl rfl fun h' he => ?_
  have e1 : Ext s { s with heap := h' } := ⟨fun b o _ e => he b o (Nat.ne_of_lt (Heap.lt_size e)) e, fun _ _ _ e => e, id, rfl⟩
  refine wpAny_assignInOrder_more ?_
  refine wpAny_assign_Name ((F.ext e1.k).store hi (.p (r1.ext e1.k)) (fun _ _ e => nomatch e) hw1 fun s₂ k₂ F₂ => ?_)
  refine wpAny_assignInOrder_more ?_
  have r2' : Rp X s₂.heap v2 b := (r2.ext e1.k).keep fun b o hb e => k₂.keep b o (fun hm => hb (F.sub b hm)) e
  refine wpAny_assign_Name (F₂.store hj (.p r2') (fun _ _ e => nomatch e) hw2 fun s₃ k₃ F₃ => wpAny_assignInOrder_none (h _ (((KB.wide e1).trans k₂).trans k₃) F₃))
end
end Mine
end
section
open PySem PySem.W PyProof.Rows PySem.Calls
namespace Mine

/-- an iterator it, whose own objects are W and generators Gt; J: how many items are gone -/
structure Wk (C : Cx) (X W : List Addr) (Gt : List Nat) (it : Value) (xs : List PV) (J : Nat → Shared → Prop) : Prop where
  stable : ∀ i s s' M, J i s → KB M [] s s' → (∀ a ∈ M, a ∈ X ∧ a ∉ W) → J i s'
  next : ∀ i s (E : Value → Shared → Prop) (Q : Option Value → Shared → Prop) d, J i s → Kp C.hT s.heap → xs[i]? = some d →
    (∀ v s', KB W Gt s s' → Rp X s'.heap v d → J (i + 1) s' → Live W s'.heap → Q (some v) s') → wpAny C.M C.A (pyNext it) Q E s
  done : ∀ s (E : Value → Shared → Prop) (Q : Option Value → Shared → Prop), J xs.length s → Kp C.hT s.heap → (∀ s', KB W Gt s s' → Q none s') → wpAny C.M C.A (pyNext it) Q E s
  go : ∀ i s (E : Value → Shared → Prop) (Q : Unit → Shared → Prop) target v, J i s → Q () s → wpAny C.M C.A (letOwnedTupleGo target it v) Q E s
  self : ∀ i s (E : Value → Shared → Prop) (Q : Value → Shared → Prop), J i s → Q it s → wpAny C.M C.A (pyIter it) Q E s

/-- the same, where the first item may not wait -/
structure Wk1 (C : Cx) (X W : List Addr) (Gt : List Nat) (it : Value) (xs : List PV) (J : Nat → Shared → Prop) : Prop where
  stable : ∀ i s s' M, J (i + 1) s → KB M [] s s' → (∀ a ∈ M, a ∈ X ∧ a ∉ W) → Live X s'.heap → J (i + 1) s'
  next : ∀ i s (E : Value → Shared → Prop) (Q : Option Value → Shared → Prop) d, J i s → Kp C.hT s.heap → xs[i]? = some d →
    (∀ v s', KB W Gt s s' → Rp X s'.heap v d → J (i + 1) s' → Live W s'.heap → Q (some v) s') → wpAny C.M C.A (pyNext it) Q E s
  done : ∀ s (E : Value → Shared → Prop) (Q : Option Value → Shared → Prop), J xs.length s → Kp C.hT s.heap → (∀ s', KB W Gt s s' → Q none s') → wpAny C.M C.A (pyNext it) Q E s
  go : ∀ i s (E : Value → Shared → Prop) (Q : Unit → Shared → Prop) target v, J i s → Q () s → wpAny C.M C.A (letOwnedTupleGo target it v) Q E s
theorem Wk.one {C : Cx} {X W : List Addr} {Gt : List Nat} {it : Value} {xs : List PV} {J : Nat → Shared → Prop} (k : Wk C X W Gt it xs J) : Wk1 C X W Gt it xs J := ⟨fun i s s' M a b c _ => k.stable (i + 1) s s' M a b c, k.next, k.done, k.go⟩

/-- iterating a plain value gives xs -/
structure IterOK (C : Cx) (p : PV) (xs : List PV) : Prop where
  go : ∀ (X : List Addr) (s : Shared) (E : Value → Shared → Prop) (Q : Value → Shared → Prop) (v : Value), Kp C.hT s.heap → Live X s.heap → Rp X s.heap v p →
    (∀ it s' W Gt, Ext s s' → (∀ a ∈ W, s.heap.get? a = none) → Live W s'.heap → (∀ g ∈ Gt, s.gens[g]? = none) → (∀ Y : List Addr, (∀ a ∈ Y, s'.heap.get? a = none) → ∃ J, Wk C (W ++ (Y ++ X)) W Gt it xs J ∧ J 0 s') → Q it s') → wpAny C.M C.A (pyIter v) Q E s

section
variable {C : Cx} {vals : List VV} {Mt X : List Addr}

/-- objects that the frame does not know may change -/
theorem FS.kb {M : List Addr} {G : List Nat} {s s' : Shared} (F : FS C Mt X vals s.heap) (k : KB M G s s') (hM : ∀ a ∈ M, a ∈ X ∧ a ∉ Mt ∧ a ∉ C.fix ∧ C.hT.get? a = none) (hl : Live M s'.heap) : FS C Mt X vals s'.heap := by
  have kp : ∀ a o, a ∉ M → s.heap.get? a = some o → s'.heap.get? a = some o := fun a o h e => k.keep a o h e
  have hmt : ∀ a, a ∈ Mt → a ∉ M := fun a ha hm => (hM a hm).2.1 ha
  have hcl : ∀ x c, C.env.cells.lookup x = some c → c ∉ M := fun x c hc hm => (F.cel x c hc).elim (hM c hm).2.1 (hM c hm).2.2.1
  have rk : ∀ {w : Value} {d : PV}, Rp X s.heap w d → Rp X s'.heap w d := fun q => q.keep fun b o hb e => kp b o (fun hm => hb (hM b hm).1) e
  have rkl : ∀ {w : List Value} {d : List PV}, RpL X s.heap w d → RpL X s'.heap w d := fun q => q.keep fun b o hb e => kp b o (fun hm => hb (hM b hm).1) e
  have nsk : ∀ m, s.heap.Ns C.env.locals m → s'.heap.Ns C.env.locals m := fun m hn => hn.at' fun o e => kp _ o (hmt _ F.loc) e
  have ck : ∀ x c v, C.env.cells.lookup x = some c → s.heap.IsCell c v → s'.heap.IsCell c v := fun x c v hc ⟨o, e, d⟩ => ⟨o, kp c o (hcl x c hc) e, d⟩
  refine ⟨⟨fun b o e => ?_, fun b hb => ?_, F.fv.kind, F.fv.dbg, fun j z y hj hv hu => ?_⟩, F.sub, F.top, F.loc, F.cel, (fun b hb => let ⟨o, e⟩ := F.fxl b hb; ⟨o, kp b o (fun hm => (hM b hm).2.2.1 hb) e⟩), F.fxm, let ⟨m, hn⟩ := F.nsx; ⟨m, nsk m hn⟩, fun x c hc => let ⟨v, hv⟩ := F.cell x c hc; ⟨v, ck x c v hc hv⟩, F.apart, F.kinds, F.nd, F.om⟩
  · exact kp b o (fun hm => by rw [(hM b hm).2.2.2] at e; cases e) (F.fv.kp b o e)
  · by_cases hm : b ∈ M
    · exact hl b hm
    · obtain ⟨o, e⟩ := F.fv.live b hb
      exact ⟨o, kp b o hm e⟩
  · obtain ⟨v, hx, r⟩ := F.fv.var j z y hj hv hu
    refine ⟨v, ?_, ?_⟩
    · rcases hx with ⟨q, m, hn, e⟩ | ⟨q, c, hc, e⟩
      · exact .inl ⟨q, m, nsk m hn, e⟩
      · exact .inr ⟨q, c, hc, ck z c _ hc e⟩
    · cases r with
      | p r => exact .p (rk r)
      | o ha e r => exact .o ha (kp _ _ (hmt _ (F.om j _ _ hv)) e) (rkl r)
/-- the same, where the changed ones are no longer of interest -/
theorem FS.leave {W : List Addr} {G : List Nat} {s s' : Shared} (F : FS C Mt (W ++ X) vals s.heap) (k : KB W G s s') (hM : ∀ a ∈ W, a ∉ X ∧ a ∉ Mt ∧ a ∉ C.fix ∧ C.hT.get? a = none) (hm : ∀ a ∈ Mt, a ∈ X) : FS C Mt X vals s'.heap := by
  have kp : ∀ a o, a ∉ W → s.heap.get? a = some o → s'.heap.get? a = some o := fun a o h e => k.keep a o h e
  have hmt : ∀ a, a ∈ Mt → a ∉ W := fun a ha hw => (hM a hw).2.1 ha
  have hcl : ∀ x c, C.env.cells.lookup x = some c → c ∉ W := fun x c hc hm => (F.cel x c hc).elim (hM c hm).2.1 (hM c hm).2.2.1
  have sub : ∀ a ∈ X, a ∈ W ++ X := fun a ha => List.mem_append_right _ ha
  have rk : ∀ {w : Value} {d : PV}, Rp (W ++ X) s.heap w d → Rp X s'.heap w d := fun q => (q.keep fun b o hb e => kp b o (fun hw => hb (List.mem_append_left _ hw)) e).sub sub
  have rkl : ∀ {w : List Value} {d : List PV}, RpL (W ++ X) s.heap w d → RpL X s'.heap w d := fun q => (q.keep fun b o hb e => kp b o (fun hw => hb (List.mem_append_left _ hw)) e).sub sub
  have nsk : ∀ m, s.heap.Ns C.env.locals m → s'.heap.Ns C.env.locals m := fun m hn => hn.at' fun o e => kp _ o (hmt _ F.loc) e
  have ck : ∀ x c v, C.env.cells.lookup x = some c → s.heap.IsCell c v → s'.heap.IsCell c v := fun x c v hc ⟨o, e, d⟩ => ⟨o, kp c o (hcl x c hc) e, d⟩
  refine ⟨⟨fun b o e => ?_, fun b hb => ?_, F.fv.kind, F.fv.dbg, fun j z y hj hv hu => ?_⟩, hm, F.top, F.loc, F.cel, (fun b hb => let ⟨o, e⟩ := F.fxl b hb; ⟨o, kp b o (fun hm => (hM b hm).2.2.1 hb) e⟩), F.fxm, let ⟨m, hn⟩ := F.nsx; ⟨m, nsk m hn⟩, fun x c hc => let ⟨v, hv⟩ := F.cell x c hc; ⟨v, ck x c v hc hv⟩, F.apart, F.kinds, F.nd, F.om⟩
  · exact kp b o (fun hw => by rw [(hM b hw).2.2.2] at e; cases e) (F.fv.kp b o e)
  · obtain ⟨o, e⟩ := F.fv.live b (sub b hb)
    exact ⟨o, kp b o (fun hw => (hM b hw).1 hb) e⟩
  · obtain ⟨v, hx, r⟩ := F.fv.var j z y hj hv hu
    refine ⟨v, ?_, ?_⟩
    · rcases hx with ⟨q, m, hn, e⟩ | ⟨q, c, hc, e⟩
      · exact .inl ⟨q, m, nsk m hn, e⟩
      · exact .inr ⟨q, c, hc, ck z c _ hc e⟩
    · cases r with
      | p r => exact .p (rk r)
      | o ha e r => exact .o (hm _ (F.om j _ _ hv)) (kp _ _ (hmt _ (F.om j _ _ hv)) e) (rkl r)
theorem FS.narrow {X' : List Addr} {h : Heap} (F : FS C Mt X' vals h) (hs : ∀ a ∈ X, a ∈ X') (hm : ∀ a ∈ Mt, a ∈ X) : FS C Mt X vals h := by
  refine ⟨⟨F.fv.kp, F.fv.live.sub hs, F.fv.kind, F.fv.dbg, fun j z y hj hv hu => ?_⟩, hm, F.top, F.loc, F.cel, F.fxl, F.fxm, F.nsx, F.cell, F.apart, F.kinds, F.nd, F.om⟩
  obtain ⟨v, hx, r⟩ := F.fv.var j z y hj hv hu
  refine ⟨v, hx, ?_⟩
  cases r with
  | p r => exact .p (r.sub hs)
  | o ha e r => exact .o (hm _ (F.om j _ _ hv)) e (r.sub hs)
theorem FS.wider {W : List Addr} {h h' : Heap} (F : FS C Mt X vals h) (hW : ∀ a ∈ W, h.get? a = none) (hk : ∀ a o, h.get? a = some o → h'.get? a = some o) (hl : Live W h') : FS C Mt (W ++ X) vals h' := by
  have F' := F.ext hk
  refine ⟨⟨F'.fv.kp, fun a ha => (List.mem_append.mp ha).elim (hl a) (F'.fv.live a), F.fv.kind, F.fv.dbg, fun j z y hj hv hu => ?_⟩, fun a ha => List.mem_append_right _ (F.sub a ha), F.top, F.loc, F.cel, F'.fxl, F.fxm, F'.nsx, F'.cell, F.apart, F.kinds, F.nd, F.om⟩
  obtain ⟨v, hx, r⟩ := F.fv.var j z y hj hv hu
  have away : ∀ a o, h.get? a = some o → a ∉ X → a ∉ W ++ X := fun a o e ha hm => (List.mem_append.mp hm).elim (fun q => by rw [hW a q] at e; cases e) ha
  refine ⟨v, hx.ext hk, ?_⟩
  cases r with
  | p r => exact .p ((r.away away).ext hk)
  | o ha e r => exact .o (List.mem_append_right _ ha) (hk _ _ e) ((r.away away).ext hk)

inductive LR (T : Type) where
  | next (t : T)
  | brk (t : T)
  | ret (d : PV)
noncomputable def LR.out {T : Type} (V : T → List VV) : LR T → Out
  | .next t => .next (V t)
  | .brk t => .brk (V t)
  | .ret d => .ret d
noncomputable def loopR {T : Type} (V : T → List VV) (step : T → PV → LR T) : List PV → T → Out
  | [], t => .next (V t)
  | x :: xs, t => match step t x with
    | .next t' => loopR V step xs t'
    | .brk t' => .next (V t')
    | .ret d => .ret d

/-- what a loop walks over -/
structure SrcOK (C : Cx) (vals : List VV) (iter : Expr) (xs : List PV) : Prop where
  go : ∀ (X : List Addr) (s : Shared) (E : Value → Shared → Prop) (Q : Value → Shared → Prop), FV C X vals s.heap →
    (∀ it s' W Gt, Ext s s' → (∀ a ∈ W, s.heap.get? a = none) → (∀ g ∈ Gt, s.gens[g]? = none) → (∃ J, Wk1 C (W ++ X) W Gt it xs J ∧ J 0 s') → Q it s') →
      wpAny C.M C.A (eval iter C.env) (fun v s₁ => wpAny C.M C.A (pyIter v) Q E s₁) E s
theorem SrcOK.of {iter : Expr} {p : PV} {xs : List PV} (src : Ev C vals iter p) (it : IterOK C p xs) : SrcOK C vals iter xs := .mk fun X s E Q F h => by
  refine src.go X s E _ F fun v s₁ e₁ r₁ => it.go X s₁ E _ v (F.kp.ext e₁.k) (F.live.ext e₁.k) r₁ fun itv s₂ W Gt e₂ hW hlW hG hwk => ?_
  refine h itv s₂ W Gt (e₁.trans e₂) (fun a ha => ?_) (fun g hg => ?_) ?_
  · cases e : s.heap.get? a with
    | none => rfl
    | some o => have := e₁.k a o e; rw [hW a ha] at this; cases this
  · cases e : s.gens[g]? with
    | none => rfl
    | some o => have := e₁.gens g o (fun z => nomatch z) e; rw [hG g hg] at this; cases this
  · obtain ⟨J, k, h0⟩ := hwk [] (fun a ha => nomatch ha)
    exact ⟨J, k.one, h0⟩

theorem Ex1.loopS {T : Type} {target iter : Expr} {body : List Stmt} {pos : Pos} {xs : List PV} (V : T → List VV) (step : T → PV → LR T) (Inv : List PV → T → Prop) (t0 : T)
    (src : SrcOK C (V t0) iter xs) (h0 : Inv [] t0)
    (hb : ∀ pre x post t, xs = pre ++ x :: post → Inv pre t → (∃ v1, Asg C Mt target x (V t) v1 ∧ Ex C Mt body v1 (LR.out V (step t x))) ∧ (∀ t', step t x = .next t' → Inv (pre ++ [x]) t'))
    (hs : ∀ x, foldedSetIterable iter C.env x = pure x := by intro _; rfl) : Ex1 C Mt (.For target iter body [] pos) (V t0) (loopR V step xs t0) := .mk fun X s E Q F h => by
  refine wpAny_For (src.go X s E _ F.fv fun itv s₂ W Gt e₂ hW hG hwk => ?_) hs
  obtain ⟨J, wk, hJ⟩ := hwk
  have hWt : ∀ a ∈ W, a ∈ W ++ X ∧ a ∉ Mt ∧ a ∉ C.fix ∧ C.hT.get? a = none := fun a ha => by
    refine ⟨List.mem_append_left _ ha, fun hm => ?_, fun hm => ?_, ?_⟩
    · obtain ⟨o, e⟩ := F.fv.live a (F.sub a hm)
      rw [hW a ha] at e; cases e
    · obtain ⟨o, e⟩ := F.fxl a hm
      rw [hW a ha] at e; cases e
    · cases e : C.hT.get? a with
      | none => rfl
      | some o => have := F.fv.kp a o e; rw [hW a ha] at this; cases this
  have hMt : ∀ a ∈ Mt, a ∈ W ++ X ∧ a ∉ W := fun a ha => ⟨List.mem_append_right _ (F.sub a ha), fun hw => (hWt a hw).2.1 ha⟩
  -- back to the caller's words
  have hWX : ∀ a ∈ W, a ∉ X ∧ a ∉ Mt ∧ a ∉ C.fix ∧ C.hT.get? a = none := fun a ha => ⟨fun hx => (by
    obtain ⟨o, e⟩ := F.fv.live a hx
    rw [hW a ha] at e
    cases e), (hWt a ha).2⟩
  have fin : ∀ f s', KB (Mt ++ W) Gt s₂ s' → Out.ok C Mt X (loopR V step xs t0) f s' → Q f s' := fun f s' k o => by
    have k' : KB Mt [] s s' := (KB.wide e₂).new k (fun a ha => (List.mem_append.mp ha).elim .inl fun q => .inr (hW a q)) (fun g hg => .inr (hG g hg))
    exact h f s' k' o
  have nar : ∀ {vs : List VV} {h' : Heap}, FS C Mt (W ++ X) vs h' → FS C Mt X vs h' := fun o => o.narrow (fun a ha => List.mem_append_right _ ha) F.sub
  have keepW : ∀ s₄, KB W Gt s₂ s₄ → ∀ a o, s.heap.get? a = some o → s₄.heap.get? a = some o := fun s₄ k a o e => k.keep a o (fun ha => by rw [hW a ha] at e; cases e) (e₂.k a o e)
  refine codeAny_forLoop_any (fun n s' => ∃ pre post t, xs = pre ++ post ∧ n = post.length ∧ J pre.length s' ∧ (Kp C.hT s'.heap ∧ ((pre = [] ∧ t = t0 ∧ s' = s₂) ∨ FS C Mt (W ++ X) (V t) s'.heap)) ∧ KB (Mt ++ W) Gt s₂ s' ∧ Inv pre t ∧ loopR V step xs t0 = loopR V step post t) ?_ xs.length
    ⟨[], xs, t0, rfl, rfl, hJ, ⟨F.fv.kp.ext e₂.k, .inl ⟨rfl, rfl, rfl⟩⟩, KB.refl, h0, rfl⟩
  rintro n s₃ ⟨pre, post, t, hxs, hn, hJ₃, ⟨hK₃, F₃⟩, k₃, hI, hout⟩
  cases post with
  | nil =>
    have hlen : pre.length = xs.length := by rw [hxs]; simp
    refine wk.done s₃ _ _ (hlen ▸ hJ₃) hK₃ fun s₄ k₄ => ?_
    refine wpAny_execs_nil (fin .next s₄ (k₃.trans (k₄.mono (fun a ha => List.mem_append_right _ ha) fun g hg => hg)) ?_)
    rw [hout]
    rcases F₃ with ⟨rfl, rfl, rfl⟩ | F₃
    · exact ⟨rfl, F.ext (keepW s₄ k₄)⟩
    · exact ⟨rfl, F₃.leave k₄ hWX F.sub⟩
  | cons x post =>
    have hx : xs[pre.length]? = some x := by rw [hxs]; simp
    refine wk.next pre.length s₃ _ _ x hJ₃ hK₃ hx fun v s₄ k₄ r₄ hJ₄ hl₄ => ?_
    have F₄ : FS C Mt (W ++ X) (V t) s₄.heap := by
      rcases F₃ with ⟨rfl, rfl, rfl⟩ | F₃
      · exact F.wider hW (keepW s₄ k₄) hl₄
      · exact F₃.kb k₄ hWt hl₄
    have k₄' := k₃.trans (k₄.mono (fun a ha => List.mem_append_right _ ha) fun g hg => hg)
    refine wk.go _ s₄ _ _ target v hJ₄ ?_
    obtain ⟨⟨v1, asg, bd⟩, nxt⟩ := hb pre x post t hxs hI
    refine asg.go (W ++ X) s₄ _ _ v F₄ r₄ fun s₅ k₅ F₅ => bd.go (W ++ X) s₅ _ _ F₅ fun f s₆ k₆ o₆ => ?_
    have k₆' : KB (Mt ++ W) Gt s₂ s₆ := k₄'.trans ((k₅.trans k₆).mono (fun a ha => List.mem_append_left _ ha) fun g hg => nomatch hg)
    have hJ₆ : ∀ vs, FS C Mt (W ++ X) vs s₆.heap → J (pre.length + 1) s₆ := fun vs F => wk.stable _ _ _ Mt hJ₄ (k₅.trans k₆) hMt F.fv.live
    have hout' : loopR V step xs t0 = match step t x with | .next t' => loopR V step post t' | .brk t' => .next (V t') | .ret d => .ret d := by rw [hout]; rfl
    cases hst : step t x with
    | next t' =>
      rw [hst] at o₆ hout'
      obtain ⟨rfl, F₆⟩ := o₆
      exact ⟨post.length, by rw [hn]; simp, pre ++ [x], post, t', by rw [hxs]; simp, rfl, by simpa using hJ₆ _ F₆, ⟨F₆.fv.kp, .inr F₆⟩, k₆', nxt t' hst, hout'⟩
    | brk t' =>
      rw [hst] at o₆ hout'
      obtain ⟨rfl, F₆⟩ := o₆
      exact fin .next s₆ k₆' (by rw [hout']; exact ⟨rfl, nar F₆⟩)
    | ret d =>
      rw [hst] at o₆ hout'
      obtain ⟨v', rfl, r⟩ := o₆
      exact fin (.ret v') s₆ k₆' (by rw [hout']; exact ⟨v', rfl, r.sub fun a ha => mem_less.mpr ⟨List.mem_append_right _ (mem_less.mp ha).1, (mem_less.mp ha).2⟩⟩)

theorem Ex1.loop {T : Type} {target iter : Expr} {body : List Stmt} {pos : Pos} {p : PV} {xs : List PV} (V : T → List VV) (step : T → PV → LR T) (Inv : List PV → T → Prop) (t0 : T)
    (src : Ev C (V t0) iter p) (it : IterOK C p xs) (h0 : Inv [] t0)
    (hb : ∀ pre x post t, xs = pre ++ x :: post → Inv pre t → (∃ v1, Asg C Mt target x (V t) v1 ∧ Ex C Mt body v1 (LR.out V (step t x))) ∧ (∀ t', step t x = .next t' → Inv (pre ++ [x]) t'))
    (hs : ∀ x, foldedSetIterable iter C.env x = pure x := by intro _; rfl) : Ex1 C Mt (.For target iter body [] pos) (V t0) (loopR V step xs t0) :=
  Ex1.loopS V step Inv t0 (.of src it) h0 hb hs

/-- the library's walks -/
theorem Wk.of {I : Addr} {fp wr : List Addr} {n : Nat} {P : Nat → Value → Prop} {St : Nat → Heap → Prop} {xs : List PV} (R : Heap → Prop) (W : Walks C.prog C.w C.A I fp wr n P St) (hn : n = xs.length)
    (hfp : ∀ b ∈ fp, b ∈ wr ∨ b ∉ X) (hwr : ∀ b ∈ wr, b ∈ X) (hlive : ∀ i h, St i h → ∀ b ∈ wr, ∃ o, h.get? b = some o)
    (hR : ∀ h h', R h → (∀ a o, a ∉ X → h.get? a = some o → h'.get? a = some o) → R h')
    (hP : ∀ i v d h, P i v → xs[i]? = some d → R h → Rp X h v d)
    (hgo : ∀ i s (E : Value → Shared → Prop) (Q : Unit → Shared → Prop) target v, St i s.heap → Q () s → wpAny C.M C.A (letOwnedTupleGo target (.ref I) v) Q E s) :
    Wk C X wr [] (.ref I) xs (fun i s => St i s.heap ∧ R s.heap) where
  stable := fun i s s' M hJ k hM => ⟨W.frame i _ _ hJ.1 fun b hb o e => k.keep b o (fun hm => (hfp b hb).elim (fun q => (hM b hm).2 q) fun q => q (hM b hm).1) e, hR _ _ hJ.2 fun a o ha e => k.keep a o (fun hm => ha (hM a hm).1) e⟩
  next := fun i s E Q d hJ hK hx hQ => by
    have hi : i < n := by rw [hn]; exact (List.getElem?_eq_some_iff.mp hx).1
    refine W.item i s Q E hi hJ.1 fun v h' tk hp hst hk => ?_
    have hr : R h' := hR _ _ hJ.2 fun a o ha e => hk a o (fun q => ha (hwr a q)) e
    exact hQ v _ (KB.of fun a o ha e => hk a o ha e) (hP i v d h' hp hx hr) ⟨hst, hr⟩ fun b hb => hlive _ _ hst b hb
  done := fun s E Q hJ hK hQ => W.done s Q E (hn ▸ hJ.1) fun h' tk hk => hQ _ (KB.of fun a o ha e => hk a o ha e)
  go := fun i s E Q target v hJ hQ => hgo i s E Q target v hJ.1 hQ
  self := fun i s E Q hJ hQ => W.self i s Q E hJ.1 hQ

theorem go_of {M : Model} {A : Around} {s : Shared} {E : Value → Shared → Prop} {Q : Unit → Shared → Prop} {target : Expr} {I : Addr} {o : Obj} {v : Value} {c : String} (ho : s.heap.get? I = some o) (hc : o.cls = .type c)
    (hn : ["enumerate", "zip", "dict_itemiterator", "dict_reverseitemiterator", "odict_iterator", "itertools.zip_longest", "itertools.pairwise"].contains c = false) (h : Q () s) : wpAny M A (letOwnedTupleGo target (.ref I) v) Q E s := by
  have key : ∀ w : Value, wpAny M A (do
      let (.ref r, .ref a) := (Value.ref I, w) | return
      let o ← load r
      match o.cls, o.data with
      | .type n, .fields vs =>
        if ["enumerate", "zip", "dict_itemiterator", "dict_reverseitemiterator", "odict_iterator", "itertools.zip_longest", "itertools.pairwise"].contains n && vs[0]? == some (rawInt a) then
          rule "for.unpacks-the-owned-tuple"
          updateField r 0 .none
      | _, _ => pure () : Sem Unit) Q E s := by
    intro w
    cases w <;> try exact wpAny_pure h
    rename_i a
    refine wpAny_bind (wpAny_load ho ?_)
    rw [hc]
    cases o.data <;> try exact wpAny_pure h
    show wpAny M A (if (List.contains _ c && _) = true then _ else _) Q E s
    rw [hn, Bool.false_and]
    exact wpAny_pure h
  unfold letOwnedTupleGo
  split
  · exact key v
  · exact key v
  · exact wpAny_pure h

theorem RpL.wid {X Y W : List Addr} {h h' : Heap} {vs : List Value} {ds : List PV} (r : RpL X h vs ds) (hW : ∀ a ∈ W, h.get? a = none) (hk : ∀ a o, h.get? a = some o → h'.get? a = some o) (hY : ∀ a ∈ Y, h'.get? a = none) : RpL (W ++ (Y ++ X)) h' vs ds :=
  (r.away fun b o e hb hm => (List.mem_append.mp hm).elim (fun q => by rw [hW b q] at e; cases e) fun q => (List.mem_append.mp q).elim (fun q => by have := hk b o e; rw [hY b q] at this; cases this) hb).ext hk
theorem IterOK.list {l : List PV} (hh : C.A.handled = none) : IterOK C (.lst l) l := .mk fun X s E Q v hK hL r h => by
  cases r with | lst ha ho r =>
  rename_i a vs n
  have hne : a ≠ s.heap.objs.size := Nat.ne_of_lt (Heap.lt_size ho)
  refine wpAny_pyIter_list (items := vs.toArray) ⟨_, ho, rfl, _, rfl⟩ ?_
  refine h _ _ [s.heap.objs.size] [] Ext.push (fun b hb => by rw [List.mem_singleton.mp hb]; exact get_size) (fun b hb => by rw [List.mem_singleton.mp hb]; exact ⟨_, Heap.get?_push_size _ rfl⟩) (fun g hg => nomatch hg) fun Y hY =>
    ⟨_, Wk.of (fun h => RpL ([s.heap.objs.size] ++ (Y ++ X)) h vs l) (Walks.list hh s.heap.objs.size a hne vs.toArray) (by simpa using r.length) ?_ (fun b hb => List.mem_append_left _ hb) ?_ (fun h h' q k => q.keep k) ?_ ?_, ?_⟩
  · intro b hb
    rcases List.mem_cons.mp hb with e | hb
    · exact .inl (by rw [e]; exact List.mem_singleton.mpr rfl)
    · rw [List.mem_singleton.mp hb]
      exact .inr fun hm => (List.mem_append.mp hm).elim (fun q => hne (List.mem_singleton.mp q)) fun q => (List.mem_append.mp q).elim (fun q => by have := hY _ q; rw [show ({ s with heap := s.heap.push _ } : Shared).heap.get? a = some _ from Heap.get?_push_of_some _ ho] at this; cases this) ha
  · rintro i h' ⟨⟨o, e, _⟩, _⟩ b hb
    rw [List.mem_singleton.mp hb]; exact ⟨o, e⟩
  · intro i v d h' hp hx q
    obtain ⟨v', hv', q'⟩ := q.get hx
    have : v' = v := by simpa [hv'] using hp
    exact this ▸ q'
  · rintro i s' E Q target v ⟨⟨o, e, hc, hd⟩, _⟩ hQ
    exact go_of e hc (by decide) hQ
  · refine ⟨⟨⟨_, Heap.get?_push_size _ rfl, rfl, rfl⟩, ⟨_, Heap.get?_push_of_some _ ho, rfl, _, rfl⟩⟩, r.wid (fun b hb => by rw [List.mem_singleton.mp hb]; exact get_size) (KB.k Ext.push) hY⟩
theorem IterOK.tuple {l : List PV} (hh : C.A.handled = none) : IterOK C (.tup l) l := .mk fun X s E Q v hK hL r h => by
  cases r with | tup ha ho r =>
  rename_i a vs n
  have hne : a ≠ s.heap.objs.size := Nat.ne_of_lt (Heap.lt_size ho)
  refine wpAny_pyIter_tuple (items := vs.toArray) ⟨_, ho, rfl, _, rfl⟩ ?_
  refine h _ _ [s.heap.objs.size] [] Ext.push (fun b hb => by rw [List.mem_singleton.mp hb]; exact get_size) (fun b hb => by rw [List.mem_singleton.mp hb]; exact ⟨_, Heap.get?_push_size _ rfl⟩) (fun g hg => nomatch hg) fun Y hY =>
    ⟨_, Wk.of (fun h => RpL ([s.heap.objs.size] ++ (Y ++ X)) h vs l) (Walks.tuple hh s.heap.objs.size a hne vs.toArray) (by simpa using r.length) ?_ (fun b hb => List.mem_append_left _ hb) ?_ (fun h h' q k => q.keep k) ?_ ?_, ?_⟩
  · intro b hb
    rcases List.mem_cons.mp hb with e | hb
    · exact .inl (by rw [e]; exact List.mem_singleton.mpr rfl)
    · rw [List.mem_singleton.mp hb]
      exact .inr fun hm => (List.mem_append.mp hm).elim (fun q => hne (List.mem_singleton.mp q)) fun q => (List.mem_append.mp q).elim (fun q => by have := hY _ q; rw [show ({ s with heap := s.heap.push _ } : Shared).heap.get? a = some _ from Heap.get?_push_of_some _ ho] at this; cases this) ha
  · rintro i h' ⟨⟨o, e, _⟩, _⟩ b hb
    rw [List.mem_singleton.mp hb]; exact ⟨o, e⟩
  · intro i v d h' hp hx q
    obtain ⟨v', hv', q'⟩ := q.get hx
    have : v' = v := by simpa [hv'] using hp
    exact this ▸ q'
  · rintro i s' E Q target v ⟨⟨o, e, hc, hd⟩, _⟩ hQ
    exact go_of e hc (by decide) hQ
  · refine ⟨⟨⟨_, Heap.get?_push_size _ rfl, rfl, rfl⟩, ⟨_, Heap.get?_push_of_some _ ho, rfl, _, rfl⟩⟩, r.wid (fun b hb => by rw [List.mem_singleton.mp hb]; exact get_size) (KB.k Ext.push) hY⟩
noncomputable def rangeL (a b : Int) : List PV := (List.range (b - a).toNat).map fun (i : Nat) => .int (a + (i : Int))
theorem IterOK.range {a b : Int} (hh : C.A.handled = none) (ha : -(2 ^ 60) < a) (ha' : a < 2 ^ 60) (hb : -(2 ^ 60) < b) (hb' : b < 2 ^ 60) : IterOK C (.rng a b) (rangeL a b) := .mk fun X s E Q v hK hL r h => by
  cases r with | rng hx hr =>
  have hsz : Builtin.Range.rangeSize a b 1 = (((b - a).toNat : Nat) : Int) := rangeSize_nat a b
  refine wpAny_pyIter_range hr (small_one (by omega) (by omega) (by omega) (by omega)) ?_
  have hlen : (rangeL a b).length = (b - a).toNat := by simp [rangeL]
  refine h _ _ [s.heap.objs.size] [] Ext.push (fun b hb => by rw [List.mem_singleton.mp hb]; exact get_size) (fun b hb => by rw [List.mem_singleton.mp hb]; exact ⟨_, Heap.get?_push_size _ rfl⟩) (fun g hg => nomatch hg) fun Y hY =>
    ⟨_, Wk.of (fun h => True) (Walks.range hh s.heap.objs.size a 1 (b - a).toNat) hlen.symm (fun b hb => .inl hb) (fun b hb => List.mem_append_left _ hb) ?_ (fun h h' q k => q) ?_ ?_, ?_⟩
  · intro i h' e b hb
    rw [List.mem_singleton.mp hb]; exact ⟨_, e⟩
  · rintro i v d h' ⟨t, rfl⟩ hx _
    have : d = .int (a + i) := by
      simp only [rangeL, List.getElem?_map] at hx
      cases hq : (List.range (b - a).toNat)[i]? with
      | none => rw [hq] at hx; cases hx
      | some j =>
        rw [hq] at hx
        have hj := List.getElem?_eq_some_iff.mp hq
        have : j = i := by rw [← hj.2]; simp
        subst this
        exact (Option.some.inj hx).symm
    rw [this, Int.mul_one]
    exact .int _ _
  · rintro i s' E Q target v e hQ
    exact go_of e rfl (by decide) hQ
  · refine ⟨?_, trivial⟩
    show IsRangeIter _ _ _ _ _
    rw [hsz]
    simpa using Heap.get?_push_size _ rfl
noncomputable def signs (x : Str) : List PV := x.cps.toList.map fun c => .str ⟨#[c]⟩
theorem IterOK.str {x : Str} (hh : C.A.handled = none) : IterOK C (.str x) (signs x) := .mk fun X s E Q v hK hL r h => by
  cases r with | str _ t =>
  have hlen : (signs x).length = x.cps.size := by simp [signs]
  have main : ∀ (o : Obj) (St : Nat → Heap → Prop), Walks C.prog C.w C.A s.heap.objs.size [s.heap.objs.size] [s.heap.objs.size] x.cps.size (SignAt x) St → St 0 (s.heap.push o) → o.isFreed = false → (∀ i h, St i h → ∃ o c, h.get? s.heap.objs.size = some o ∧ o.cls = .type c ∧
      ["enumerate", "zip", "dict_itemiterator", "dict_reverseitemiterator", "odict_iterator", "itertools.zip_longest", "itertools.pairwise"].contains c = false) → Q (.ref s.heap.objs.size) { s with heap := s.heap.push o } := fun o St W hst hf hlv => by
    refine h _ _ [s.heap.objs.size] [] Ext.push (fun b hb => by rw [List.mem_singleton.mp hb]; exact get_size) (fun b hb => by rw [List.mem_singleton.mp hb]; exact ⟨_, Heap.get?_push_size _ hf⟩) (fun g hg => nomatch hg) fun Y hY =>
      ⟨_, Wk.of (fun h => True) W hlen.symm (fun b hb => .inl hb) (fun b hb => List.mem_append_left _ hb) ?_ (fun h h' q k => q) ?_ ?_, ⟨hst, trivial⟩⟩
    · intro i h' e b hb
      obtain ⟨o, c, q, _⟩ := hlv i h' e
      rw [List.mem_singleton.mp hb]; exact ⟨_, q⟩
    · rintro i v d h' ⟨c, u, hc, rfl⟩ hx _
      have : d = .str ⟨#[c]⟩ := by
        simp only [signs, List.getElem?_map, Array.getElem?_toList, hc] at hx
        exact (Option.some.inj hx).symm
      rw [this]; exact .str _ _
    · rintro i s' E Q target v e hQ
      obtain ⟨o, c, q, hc, hn⟩ := hlv i _ e
      exact go_of q hc hn hQ
  cases ha : x.cps.all (· < 128)
  · exact wpAny_pyIter_wide ha (main _ _ (Walks.strWide hh _ x t) ⟨_, Heap.get?_push_size _ rfl, rfl, rfl⟩ rfl fun i h' ⟨o, e, hc, _⟩ => ⟨o, _, e, hc, by decide⟩)
  · exact wpAny_pyIter_ascii ha (main _ _ (Walks.strAscii hh _ x t) ⟨_, Heap.get?_push_size _ rfl, rfl, rfl⟩ rfl fun i h' ⟨o, e, hc, _⟩ => ⟨o, _, e, hc, by decide⟩)
end
end Mine
end
section
open PySem PySem.W PyProof.Rows PySem.Calls
namespace Mine
section
variable {C : Cx} {vals : List VV} {Mt X : List Addr}

theorem Ex1.whl {test : Expr} {body : List Stmt} {pos : Pos} (S : Nat → List VV) (n : Nat) (c : ∀ i, i < n → Ts C (S i) test true) (d : Ts C (S n) test false) (b : ∀ i, i < n → Ex C Mt body (S i) (.next (S (i + 1)))) :
    Ex1 C Mt (.While test body [] pos) (S 0) (.next (S n)) := .mk fun X s E Q F h => by
  refine wpAny_While (codeAny_whileLoop (fun k s' => ∃ i, k = n - i ∧ i ≤ n ∧ FS C Mt X (S i) s'.heap ∧ KB Mt [] s s') ?_ n ⟨0, by omega, by omega, F, KB.refl⟩)
  rintro k s₁ ⟨i, rfl, hi, F₁, k₁⟩
  by_cases hin : i < n
  · refine (c i hin).go X s₁ _ _ F₁.fv fun s₂ e₂ => ?_
    simp only [if_true]
    refine (b i hin).go X s₂ _ _ (F₁.ext e₂.k) fun f s₃ k₃ o₃ => ?_
    obtain ⟨rfl, F₃⟩ := o₃
    exact ⟨n - (i + 1), by omega, i + 1, rfl, hin, F₃, (k₁.trans (KB.wide e₂)).trans k₃⟩
  · have : i = n := by omega
    subst this
    refine d.go X s₁ _ _ F₁.fv fun s₂ e₂ => ?_
    simp only [Bool.false_eq_true, if_false]
    exact wpAny_execs_nil (h .next s₂ (k₁.trans (KB.wide e₂)) ⟨rfl, F₁.ext e₂.k⟩)

/-- a list of the frame's own -/
theorem Ex.own {x : Str} {np p pos : Pos} {rest : List Stmt} {d : PV} (i : Nat) (hi : C.ns[i]? = some x) (y : ∀ a, a ∉ Mt → Ex C (a :: Mt) rest (vals.set i (.o a [])) (.ret d)) (hw : C.env.kindOf x = some .local ∨ C.fix = [] := by exact .inr rfl)
    (hs : swapsWith (.List [] p) (some (.Name x np)) pos.line C.env = pure false := by rfl) : Ex C Mt (.Assign [.Name x np] (.List [] p) pos :: rest) vals (.ret d) := .mk fun X s E Q F h => by
  refine wpAny_execs_cons (wpAny_Assign_Name (List_ (spliced_nil (wpAny_newList (items := []) ?_ (by decide)))) hs)
  have hnew : s.heap.get? s.heap.objs.size = none := get_size
  have hX : s.heap.objs.size ∉ X := F.fv.live.new hnew
  have F0 : FS C Mt ([s.heap.objs.size] ++ X) vals (s.heap.push { cls := .type "list", data := .seq ([] : List Value).toArray }) := F.wider (fun a ha => by rw [List.mem_singleton.mp ha]; exact hnew) (KB.k Ext.push) (fun a ha => by rw [List.mem_singleton.mp ha]; exact ⟨_, Heap.get?_push_size _ rfl⟩)
  have htop : C.hT.get? s.heap.objs.size = none := by
    cases e : C.hT.get? s.heap.objs.size with
    | none => rfl
    | some o => have := F.fv.kp _ o e; rw [hnew] at this; cases this
  have F1 : FS C (s.heap.objs.size :: Mt) (s.heap.objs.size :: X) vals (s.heap.push { cls := .type "list", data := .seq ([] : List Value).toArray }) :=
    ⟨F0.fv, fun a ha => (List.mem_cons.mp ha).elim (fun e => e ▸ List.mem_cons_self) fun q => List.mem_cons_of_mem _ (F.sub a q), fun a ha => (List.mem_cons.mp ha).elim (fun e => e ▸ htop) (F.top a), List.mem_cons_of_mem _ F.loc,
      fun x c hc => (F.cel x c hc).imp (List.mem_cons_of_mem _) id, F0.fxl, (fun b hb q => (List.mem_cons.mp q).elim (fun e => by obtain ⟨o, e'⟩ := F.fxl b hb; rw [e, hnew] at e'; cases e') (F.fxm b hb)), F0.nsx, F0.cell, F.apart, F.kinds, F.nd, fun j a l hv => List.mem_cons_of_mem _ (F.om j a l hv)⟩
  refine FS.store (s := { s with heap := s.heap.push { cls := .type "list", data := .seq ([] : List Value).toArray } }) F1 hi (.o (n := 0) (vs := []) (ds := []) List.mem_cons_self (Heap.get?_push_size _ rfl) .nil) (fun a l e => by cases e; exact List.mem_cons_self) hw fun s₂ k₂ F₂ => ?_
  refine (y _ (fun hm => hX (F.sub _ hm))).go _ s₂ E _ F₂ fun f s₃ k₃ o₃ => ?_
  obtain ⟨v, rfl, r⟩ := o₃
  refine h _ s₃ (KB.new (KB.wide Ext.push) (k₂.trans k₃) (fun a ha => (List.mem_cons.mp ha).elim (fun e => .inr (e ▸ hnew)) .inl) fun g hg => nomatch hg) ⟨v, rfl, r.sub fun b hb => ?_⟩
  obtain ⟨h1, h2⟩ := mem_less.mp hb
  exact mem_less.mpr ⟨List.mem_cons_of_mem _ h1, fun q => (List.mem_cons.mp q).elim (fun e => hX (e ▸ h1)) h2⟩

noncomputable def noOwn (vals : List VV) : Bool := vals.all fun y => match y with | .o _ _ => false | _ => true
theorem noOwn_get {vals : List VV} (h : noOwn vals = true) {j : Nat} {a : Addr} {l : List PV} : vals[j]? ≠ some (.o a l) := fun e => by
  have := List.all_eq_true.mp h _ (List.mem_of_getElem? e)
  simp at this
/-- it grows no more -/
theorem Ex.freeze {rest : List Stmt} {a : Addr} {l : List PV} {d : PV} {x : Str} (i : Nat) (hx : C.ns[i]? = some x) (hi : vals[i]? = some (.o a l)) (hno : noOwn (vals.set i .u) = true) (ha : a ∉ Mt) (y : Ex C Mt rest (vals.set i (.p (.lst l))) (.ret d)) : Ex C (a :: Mt) rest vals (.ret d) := .mk fun X s E Q F h => by
  have hsub : ∀ b ∈ less X [a], b ∈ X := fun b hb => (mem_less.mp hb).1
  have hoth : ∀ j y, j ≠ i → vals[j]? = some y → ∀ b l', y ≠ .o b l' := fun j y hj hv b l' e => by
    subst e
    exact noOwn_get hno (j := j) (a := b) (l := l') (by rw [List.getElem?_set_ne (Ne.symm hj)]; exact hv)
  have hmt : ∀ b ∈ Mt, b ∈ less X [a] := fun b hb => mem_less.mpr ⟨F.sub b (List.mem_cons_of_mem _ hb), fun e => ha (by rw [← List.mem_singleton.mp e]; exact hb)⟩
  -- the object at a
  have hobj : ∀ x, C.ns[i]? = some x → ∃ vs n, s.heap.get? a = some (lstO vs n) ∧ RpL X s.heap vs l ∧ ∃ v, Vr C.env s.heap x v ∧ v = .ref a := fun x hx => by
    obtain ⟨v, hv, r⟩ := F.fv.var i x _ hx hi (fun e => nomatch e)
    cases r with | o _ e r => exact ⟨_, _, e, r, _, hv, rfl⟩
  obtain ⟨vs, n, he, hr, v, hvr, rfl⟩ := hobj x hx
  have hL : C.env.locals ≠ a := by
    intro e
    obtain ⟨m, o1, es, ep, q1, q2, _⟩ := F.nsx
    rw [e, he] at q1; cases q1; cases q2
  have hC : ∀ x c, C.env.cells.lookup x = some c → c ≠ a := fun z c hc e => by
    obtain ⟨v, o1, q1, q2⟩ := F.cell z c hc
    rw [e, he] at q1; cases q1; cases q2
  have F1 : FS C Mt (less X [a]) (vals.set i (.p (.lst l))) s.heap := by
    refine ⟨⟨F.fv.kp, F.fv.live.sub hsub, F.fv.kind, F.fv.dbg, fun j z y' hj hv hu => ?_⟩, hmt, fun b hb => F.top b (List.mem_cons_of_mem _ hb), (List.mem_cons.mp F.loc).resolve_left hL, fun z c hc => (F.cel z c hc).imp (fun q => (List.mem_cons.mp q).resolve_left (hC z c hc)) id, F.fxl, (fun b hb q => F.fxm b hb (List.mem_cons_of_mem _ q)), F.nsx, F.cell, F.apart, F.kinds, F.nd, fun j b l' hv => ?_⟩
    · by_cases hij : j = i
      · subst hij
        rw [hx] at hj; cases hj
        have : y' = .p (.lst l) := by
          rw [List.getElem?_set] at hv
          simp only [if_true] at hv
          split at hv
          · exact (Option.some.inj hv).symm
          · cases hv
        subst this
        exact ⟨_, hvr, .p (.lst (fun q => (mem_less.mp q).2 (List.mem_singleton.mpr rfl)) he (hr.sub hsub))⟩
      · rw [List.getElem?_set_ne (Ne.symm hij)] at hv
        obtain ⟨w, hw, q⟩ := F.fv.var j z y' hj hv hu
        refine ⟨w, hw, ?_⟩
        cases q with
        | p q => exact .p (q.sub hsub)
        | o _ _ _ => exact absurd rfl (hoth j _ hij hv _ _)
    · by_cases hij : j = i
      · subst hij
        rw [List.getElem?_set] at hv
        simp only [if_true] at hv
        split at hv
        · cases hv
        · cases hv
      · rw [List.getElem?_set_ne (Ne.symm hij)] at hv
        exact absurd rfl (hoth j _ hij hv _ _)
  refine y.go _ s E _ F1 fun f s₁ k₁ o₁ => ?_
  obtain ⟨v, rfl, r⟩ := o₁
  refine h _ s₁ (k₁.mono (fun b hb => List.mem_cons_of_mem _ hb) fun g hg => nomatch hg) ⟨v, rfl, r.sub fun b hb => ?_⟩
  obtain ⟨h1, h2⟩ := mem_less.mp hb
  exact mem_less.mpr ⟨mem_less.mpr ⟨h1, fun q => h2 (List.mem_cons.mpr (.inl (List.mem_singleton.mp q)))⟩, fun q => h2 (List.mem_cons_of_mem _ q)⟩

/-- the growing list gets one more -/
theorem Ex1.app {x : Str} {np apos p pos : Pos} {e : Expr} {a : Addr} {l : List PV} {d : PV} (i : Nat) (hx : C.ns[i]? = some x) (hi : vals[i]? = some (.o a l)) (hno : noOwn (vals.set i .u) = true) (y : Ev C vals e d) (hz : l.length < sizeLine)
    (hbase : attributeBase (.Name x np) "append" C.env (eval (.Name x np) C.env) = eval (.Name x np) C.env := by rfl)
    (hfew : ((backTo p (starEach [e] C.env)).all (fun x => !x.1) && (backToKw p (keywordEach [] C.env)).all (fun x => x.1.isSome) && decide (([e] : List Expr).length + ([] : List Keyword).length + (if ([] : List Keyword).isEmpty then 0 else 1) < 30)) = true := by rfl)
    (hline : (apos.endLine == p.line) = true := by rfl) (he : backTo p (starEach [e] C.env) = [(false, eval e C.env)] := by rfl)
    (hin : interactive C.env = false := by rfl) (hs : swapsWith (.Call (.Attribute (.Name x np) "append" apos) [e] [] p) none pos.line C.env = pure false := by rfl) :
    Ex1 C Mt (.Expr (.Call (.Attribute (.Name x np) "append" apos) [e] [] p) pos) vals (.next (vals.set i (.o a (l ++ [d])))) := .mk fun X s E Q F h => by
  obtain ⟨v, hv, r⟩ := F.fv.var i x _ hx hi (fun e => nomatch e)
  have haM := F.om i a l hi
  cases r with | o haX ho r =>
  rename_i vs n
  have hoth : ∀ j y, j ≠ i → vals[j]? = some y → ∀ b l', y ≠ .o b l' := fun j y hj hv b l' e => by
    subst e
    exact noOwn_get hno (j := j) (a := b) (l := l') (by rw [List.getElem?_set_ne (Ne.symm hj)]; exact hv)
  refine wpAny_Expr_any ?_ hin hs
  refine wpAny_Call_append hbase hfew hline he (wpAny_Name (Q := _) ?_ (F.fv.dbg x (List.mem_of_getElem? hx)))
  have cont : ∃ D its, Value.ref a = .ref D ∧ PlainL s.heap D its ∧ wpAny (model C.prog C.w) C.A (eval e C.env) (fun y s₂ => wpAny (model C.prog C.w) C.A (call (.builtin "list.append") [.ref D, y]) (fun _ => Q .next) E s₂) E s := by
    refine ⟨a, vs.toArray, rfl, ⟨_, _, ho, rfl, rfl, rfl⟩, y.go X s E _ F.fv fun w s₁ e₁ r₁ => ?_⟩
    refine wpAny_list_append_plain (items := vs.toArray) ⟨_, e₁.k _ _ ho⟩ (fun h' hp hsb => ?_) (by simpa [r.length] using Nat.le_of_lt hz)
    obtain ⟨n', hp⟩ := hp
    have F₁ := F.ext e₁.k
    have kb : KB Mt [] s₁ { s₁ with heap := h' } := ⟨fun b o hb e => (hsb.2 b (fun q => hb (q ▸ haM))).trans e, fun _ _ _ e => e, id, rfl⟩
    have rk : ∀ {w : Value} {d : PV}, Rp X s₁.heap w d → Rp X h' w d := fun q => q.keep fun b o hb e => (hsb.2 b (fun z => hb (z ▸ haX))).trans e
    have rkl : ∀ {w : List Value} {d : List PV}, RpL X s₁.heap w d → RpL X h' w d := fun q => q.keep fun b o hb e => (hsb.2 b (fun z => hb (z ▸ haX))).trans e
    have ho₁ := e₁.k _ _ ho
    have hL : C.env.locals ≠ a := by
      intro e
      obtain ⟨m, o1, es, ep, q1, q2, _⟩ := F₁.nsx
      rw [e, ho₁] at q1; cases q1; cases q2
    have hC : ∀ x c, C.env.cells.lookup x = some c → c ≠ a := fun z c hc e => by
      obtain ⟨v, o1, q1, q2⟩ := F₁.cell z c hc
      rw [e, ho₁] at q1; cases q1; cases q2
    have nsk : ∀ m, s₁.heap.Ns C.env.locals m → h'.Ns C.env.locals m := fun m hn => hn.sameBut hsb hL
    have vk : ∀ z w, Vr C.env s₁.heap z w → Vr C.env h' z w := fun z w q => by
      rcases q with ⟨k, m, hn, e⟩ | ⟨k, c, hc, e⟩
      · exact .inl ⟨k, m, nsk m hn, e⟩
      · exact .inr ⟨k, c, hc, e.sameBut hsb (hC z c hc)⟩
    refine h _ _ ((KB.wide e₁).trans kb) ⟨rfl, ⟨⟨fun b o e => ?_, fun b hb => ?_, F.fv.kind, F.fv.dbg, fun j z y' hj hv' hu => ?_⟩, F.sub, F.top, F.loc, F.cel, (fun b hb => let ⟨o, e⟩ := F₁.fxl b hb; ⟨o, (hsb.2 b (fun q => F.fxm b hb (q ▸ haM))).trans e⟩), F.fxm, let ⟨m, hn⟩ := F₁.nsx; ⟨m, nsk m hn⟩, fun z c hc => let ⟨v, q⟩ := F₁.cell z c hc; ⟨v, q.sameBut hsb (hC z c hc)⟩, F.apart, F.kinds, F.nd, fun j b l' hv' => ?_⟩⟩
    · exact (hsb.2 b (fun q => by rw [q, F.top a haM] at e; cases e)).trans (F₁.fv.kp b o e)
    · by_cases hb' : b = a
      · rw [hb']; exact ⟨_, hp⟩
      · obtain ⟨o, e⟩ := F₁.fv.live b hb
        exact ⟨o, (hsb.2 b hb').trans e⟩
    · by_cases hij : j = i
      · subst hij
        rw [hx] at hj; cases hj
        have : y' = .o a (l ++ [d]) := by
          rw [List.getElem?_set] at hv'
          simp only [if_true] at hv'
          split at hv'
          · exact (Option.some.inj hv').symm
          · cases hv'
        subst this
        refine ⟨_, vk _ _ (hv.ext e₁.k), .o (vs := vs ++ [w]) (n := n') haX ?_ ((rkl (r.ext e₁.k)).append (.one (rk r₁)))⟩
        rw [hp]; simp [lstO]
      · rw [List.getElem?_set_ne (Ne.symm hij)] at hv'
        obtain ⟨w', hw, q⟩ := F₁.fv.var j z y' hj hv' hu
        refine ⟨w', vk _ _ hw, ?_⟩
        cases q with
        | p q => exact .p (rk q)
        | o _ _ _ => exact absurd rfl (hoth j _ hij hv' _ _)
    · by_cases hij : j = i
      · subst hij
        rw [List.getElem?_set] at hv'
        simp only [if_true] at hv'
        split at hv'
        · cases hv'; exact haM
        · cases hv'
      · rw [List.getElem?_set_ne (Ne.symm hij)] at hv'
        exact absurd rfl (hoth j _ hij hv' _ _)
  rcases hv with ⟨k, m, hn, hm⟩ | ⟨k, c, hc, hv⟩
  · exact wpAny_loadName_local F.fv.kind k hn hm cont
  · exact wpAny_loadName_cell F.fv.kind k hc hv cont
end
end Mine
end
section
open PySem PySem.W PyProof.Rows PySem.Calls
namespace Mine

theorem cellsFrom_names (l : List (Str × NameKind)) : ∀ (n m : Nat) (a b : List (Str × Addr)), a.map (·.1) = b.map (·.1) → (cellsFrom n l a).map (·.1) = (cellsFrom m l b).map (·.1) := by
  induction l with
  | nil => intro n m a b h; exact h
  | cons x l ih =>
    intro n m a b h
    obtain ⟨x, k⟩ := x
    unfold cellsFrom
    split
    · exact ih _ _ _ _ (by simp [h])
    · exact ih _ _ _ _ h
theorem cellsFrom_mem (l : List (Str × NameKind)) : ∀ (n : Nat) (a : List (Str × Addr)) (x : Str), ((x, NameKind.cell) ∈ l ∨ x ∈ a.map (·.1)) → x ∈ (cellsFrom n l a).map (·.1) := by
  induction l with
  | nil => intro n a x h; exact h.resolve_left (fun q => nomatch q)
  | cons y l ih =>
    intro n a x h
    obtain ⟨y, k⟩ := y
    unfold cellsFrom
    split
    · rename_i hk
      refine ih _ _ x ?_
      rcases h with h | h
      · rcases List.mem_cons.mp h with e | h
        · cases e; exact .inr (by simp)
        · exact .inl h
      · exact .inr (by simp at h ⊢; exact .inr h)
    · rename_i hk
      refine ih _ _ x ?_
      rcases h with h | h
      · rcases List.mem_cons.mp h with e | h
        · cases e; simp at hk
        · exact .inl h
      · exact .inr h
theorem lookup_of_name {α : Type} : ∀ {l : List (Str × α)} {x : Str}, x ∈ l.map (·.1) → ∃ c, l.lookup x = some c
  | (k, v) :: r, x, h => by
    rw [List.lookup_cons]
    cases hb : x == k with
    | true => exact ⟨v, rfl⟩
    | false =>
      simp only [List.map_cons, List.mem_cons] at h
      rcases h with e | h
      · subst e; simp at hb
      · exact lookup_of_name h
theorem lookup_of_mem {α : Type} : ∀ {l : List (Str × α)} {x : Str} {c : α}, (l.map (·.1)).Nodup → (x, c) ∈ l → l.lookup x = some c
  | (k, v) :: r, x, c, hn, h => by
    rw [List.lookup_cons]
    obtain ⟨h1, h2⟩ := List.nodup_cons.mp hn
    rcases List.mem_cons.mp h with e | h
    · cases e; simp
    · have : (x == k) = false := by
        cases hb : x == k with
        | false => rfl
        | true =>
          have e := beq_iff_eq.mp hb
          exact absurd (List.mem_map.mpr ⟨(x, c), h, rfl⟩) (e ▸ h1)
      rw [this]
      exact lookup_of_mem h2 h

theorem bindL_get (kd : Str → Option NameKind) : ∀ (ps : List Str) (vs : List Value) (m : Str → Option Value) (i : Nat) (x : Str) (v : Value), ps.Nodup → ps[i]? = some x → vs[i]? = some v → kd x = some .local → bindL kd (ps.zip vs) m x = some v := by
  have keep : ∀ (ps : List Str) (vs : List Value) (m : Str → Option Value) (x : Str), x ∉ ps → bindL kd (ps.zip vs) m x = m x := by
    intro ps
    induction ps with
    | nil => intro vs m x _; rfl
    | cons p ps ih =>
      intro vs m x hx
      cases vs with
      | nil => rfl
      | cons v vs =>
        have h1 : x ≠ p := fun e => hx (e ▸ List.mem_cons_self)
        show bindL kd (ps.zip vs) _ x = m x
        rw [ih vs _ x fun h => hx (List.mem_cons_of_mem _ h)]
        split
        · simp [h1]
        · rfl
  intro ps
  induction ps with
  | nil => intro vs m i x v _ h; simp at h
  | cons p ps ih =>
    intro vs m i x v hn hi hv hk
    obtain ⟨h1, h2⟩ := List.nodup_cons.mp hn
    cases vs with
    | nil => simp at hv
    | cons w vs =>
      cases i with
      | zero =>
        simp at hi hv
        subst hi hv
        show bindL kd (ps.zip vs) _ p = _
        rw [keep ps vs _ p h1, if_pos hk]; simp
      | succ i => exact ih vs _ i x v h2 (by simpa using hi) (by simpa using hv) hk
theorem bindC_get (kd : Str → Option NameKind) : ∀ (ps : List Str) (vs : List Value) (m : Str → Option Value) (i : Nat) (x : Str) (v : Value), ps.Nodup → ps[i]? = some x → vs[i]? = some v → kd x ≠ some .local → bindC kd (ps.zip vs) m x = some v := by
  have keep : ∀ (ps : List Str) (vs : List Value) (m : Str → Option Value) (x : Str), x ∉ ps → bindC kd (ps.zip vs) m x = m x := by
    intro ps
    induction ps with
    | nil => intro vs m x _; rfl
    | cons p ps ih =>
      intro vs m x hx
      cases vs with
      | nil => rfl
      | cons v vs =>
        have h1 : x ≠ p := fun e => hx (e ▸ List.mem_cons_self)
        show bindC kd (ps.zip vs) _ x = m x
        rw [ih vs _ x fun h => hx (List.mem_cons_of_mem _ h)]
        split
        · rfl
        · simp [h1]
  intro ps
  induction ps with
  | nil => intro vs m i x v _ h; simp at h
  | cons p ps ih =>
    intro vs m i x v hn hi hv hk
    obtain ⟨h1, h2⟩ := List.nodup_cons.mp hn
    cases vs with
    | nil => simp at hv
    | cons w vs =>
      cases i with
      | zero =>
        simp at hi hv
        subst hi hv
        show bindC kd (ps.zip vs) _ p = _
        rw [keep ps vs _ p h1, if_neg hk]; simp
      | succ i => exact ih vs _ i x v h2 (by simpa using hi) (by simpa using hv) hk

noncomputable def Cx.into (C : Cx) (fd : FuncData) (f L : Addr) (ns : List Str) : Cx := { C with A := C.A.deeper (callEnvC fd L f), env := callEnvC fd L f, ns := ns, fix := [] }
noncomputable def mtOf (fd : FuncData) (L : Addr) : List Addr := L :: (cellsFrom (L + 1) fd.scope.names []).map (·.2)

theorem Rm.deeper {A : Around} {n : Nat} {env : Env} (r : Rm A (n + 1)) : Rm (A.deeper env) n :=
  ⟨r.hh, by have := r.depth; show A.depth + 1 + n < _; omega, by have := r.units; show A.units + 3 + 100 + 10 * n < _; omega⟩
theorem Rm.mono {A : Around} {n m : Nat} (r : Rm A n) (h : m ≤ n) : Rm A m := ⟨r.hh, by have := r.depth; omega, by have := r.units; omega⟩

/-- a frame's static facts -/
structure Fn (fd : FuncData) (ps rest : List Str) : Prop where
  kinds : ∀ x ∈ ps ++ rest, fd.scope.names.lookup x = some .local ∨ fd.scope.names.lookup x = some .cell
  nd : (ps ++ rest).Nodup
  dbg : ∀ x ∈ ps ++ rest, (x == ("__debug__" : Str)) = false
  cn : ((cellsFrom 0 fd.scope.names []).map (·.1)).Nodup
  kind : fd.scope.kind = .function
  bind : ∀ vs : List Value, vs.length = ps.length → bindArgs fd ⟨vs, []⟩ = pure (ps.zip vs)

/-- at a call's start -/
theorem Fn.start {C : Cx} {fd : FuncData} {f : Addr} {ps rest : List Str} {ds : List PV} {X : List Addr} {s s₁ : Shared} {vs : List Value} (N : Fn fd ps rest) (hK : Kp C.hT s.heap) (hL : Live X s.heap) (hlen : ds.length = ps.length) (r : RpL X s.heap vs ds) (k : Nat)
    (x : InCallC s s.heap.objs.size (bindL (callEnvC fd s.heap.objs.size f).kindOf (ps.zip vs) fun _ => none) (callEnvC fd s.heap.objs.size f).cells (bindC (callEnvC fd s.heap.objs.size f).kindOf (ps.zip vs) fun _ => none) s₁) :
    FS (C.into fd f s.heap.objs.size (ps ++ rest)) (mtOf fd s.heap.objs.size) (mtOf fd s.heap.objs.size ++ X) (ds.map .p ++ List.replicate k .u) s₁.heap ∧ (∀ a ∈ mtOf fd s.heap.objs.size, s.heap.get? a = none) ∧ Ext s s₁ := by
  have hge : ∀ a ∈ mtOf fd s.heap.objs.size, s.heap.get? a = none := fun a ha => by
    cases e : s.heap.get? a with
    | none => rfl
    | some o =>
      have hlt := Heap.lt_size e
      rcases List.mem_cons.mp ha with rfl | ha
      · exact absurd hlt (Nat.lt_irrefl _)
      · obtain ⟨⟨n, c⟩, hc, rfl⟩ := List.mem_map.mp ha
        have := x.above n c hc
        exact absurd (Nat.lt_trans this hlt) (Nat.lt_irrefl _)
  have hkeep := x.toInCall.keep
  have hcn : ((callEnvC fd s.heap.objs.size f).cells.map (·.1)).Nodup := by
    have : (callEnvC fd s.heap.objs.size f).cells = cellsFrom (s.heap.objs.size + 1) fd.scope.names [] := rfl
    rw [this, cellsFrom_names fd.scope.names (s.heap.objs.size + 1) 0 [] [] rfl]; exact N.cn
  have hext : Ext s s₁ := by
    obtain ⟨h, tk, rfl⟩ := x.toInCall.same
    exact Ext.of hkeep
  have hcell : ∀ z, fd.scope.names.lookup z = some .cell → ∃ c, (callEnvC fd s.heap.objs.size f).cells.lookup z = some c := fun z hz =>
    lookup_of_name (cellsFrom_mem _ _ _ z (.inl (PySem.mem_of_lookup hz)))
  have hvlen : vs.length = ps.length := by rw [r.length, hlen]
  refine ⟨⟨⟨hK.ext hkeep, fun a ha => ?_, N.kind, N.dbg, fun i z y hi hv hu => ?_⟩, fun a ha => List.mem_append_left _ ha, fun a ha => ?_, List.mem_cons_self, fun z c hc => .inl ?_, (fun _ h => nomatch h), (fun _ h => nomatch h), ⟨_, x.toInCall.ns⟩, fun z c hc => ⟨_, x.cell z c hc⟩,
    fun _ z z' c h1 h2 => name_of_addr x.apart (PySem.mem_of_lookup h1) (PySem.mem_of_lookup h2), fun z hz => (N.kinds z hz).imp id fun q => ⟨q, hcell z q⟩, N.nd, fun i a l hv => ?_⟩, hge, hext⟩
  · rcases List.mem_append.mp ha with ha | ha
    · rcases List.mem_cons.mp ha with rfl | ha
      · obtain ⟨o, _, _, e, _⟩ := x.toInCall.ns; exact ⟨o, e⟩
      · obtain ⟨⟨n, c⟩, hc, rfl⟩ := List.mem_map.mp ha
        obtain ⟨o, e, _⟩ := x.cell n c (lookup_of_mem hcn hc)
        exact ⟨o, e⟩
    · obtain ⟨o, e⟩ := hL a ha
      exact ⟨o, hkeep a o e⟩
  · -- a variable
    have hi' : i < ds.length := by
      rcases Nat.lt_or_ge i ds.length with h | h
      · exact h
      · rw [List.getElem?_append_right (by simpa using h)] at hv
        have := List.eq_of_mem_replicate (List.mem_of_getElem? hv)
        exact absurd this hu
    rw [List.getElem?_append_left (by simpa using hi'), List.getElem?_map] at hv
    have hip : i < ps.length := hlen ▸ hi'
    have hi2 : ps[i]? = some z := by
      have : (ps ++ rest)[i]? = some z := hi
      rwa [List.getElem?_append_left hip] at this
    cases hd : ds[i]? with
    | none => rw [hd] at hv; cases hv
    | some d =>
      rw [hd] at hv
      cases hv
      obtain ⟨v, hvv, rv⟩ := r.get hd
      have rv' : Rp (mtOf fd s.heap.objs.size ++ X) s₁.heap v d := (rv.away fun b o e hb hm => (List.mem_append.mp hm).elim (fun q => by rw [hge b q] at e; cases e) hb).ext hkeep
      have hnp : ps.Nodup := (List.nodup_append.mp N.nd).1
      refine ⟨v, ?_, .p rv'⟩
      rcases N.kinds z (List.mem_append_left _ (List.mem_of_getElem? hi2)) with hk | hk
      · exact .inl ⟨hk, _, x.toInCall.ns, bindL_get _ ps vs _ i z v hnp hi2 hvv hk⟩
      · obtain ⟨c, hc⟩ := hcell z hk
        have := x.cell z c hc
        rw [bindC_get _ ps vs _ i z v hnp hi2 hvv (by show fd.scope.names.lookup z ≠ _; rw [hk]; decide)] at this
        exact .inr ⟨hk, c, hc, this⟩
  · cases e : (C.into fd f s.heap.objs.size (ps ++ rest)).hT.get? a with
    | none => rfl
    | some o => have := hK a o e; rw [hge a ha] at this; cases this
  · exact List.mem_cons_of_mem _ (List.mem_map.mpr ⟨(z, c), PySem.mem_of_lookup hc, rfl⟩)
  · have hm := List.mem_of_getElem? hv
    rcases List.mem_append.mp hm with hm | hm
    · obtain ⟨d, _, e⟩ := List.mem_map.mp hm; cases e
    · exact absurd (List.eq_of_mem_replicate hm) (by intro e; cases e)

theorem CallOK.fn {C : Cx} {f : Addr} {o : Obj} {fd : FuncData} {body : List Stmt} {ps rest : List Str} {ds : List PV} {d : PV} {n : Nat} (k : Nat) (N : Fn fd ps rest)
    (hr : Rm C.A (n + 1)) (ho : C.hT.get? f = some o) (hdata : o.data = .func fd) (hlim : C.hT.NoLimit) (hcd : C.hT.CodeRec fd.code fd.qualname) (hbody : fd.body = .stmts body) (hclo : fd.closure = []) (hlen : ds.length = ps.length)
    (y : ∀ L, Ex (C.into fd f L (ps ++ rest)) (mtOf fd L) body (ds.map .p ++ List.replicate k .u) (.ret d))
    (hco : fd.scope.isCoroutine = false := by rfl) (hgen : fd.scope.isGenerator = false := by rfl) : CallOK C (.ref f) ds d := .mk fun X s E Q vs hK hL r h => by
  have hvlen : vs.length = ps.length := by rw [r.length, hlen]
  refine wpAny_call (codeAny_call_cells (by have := hr.depth; omega) (hK _ _ ho) hdata (hlim.keeps hK) (hcd.keeps hK) hbody (N.bind vs hvlen) hclo (fun x hx => ?_) (fun s₁ x => ?_) hco hgen N.kind)
  · have hx1 : x.1 ∈ ps := (List.of_mem_zip (show (x.1, x.2) ∈ ps.zip vs from hx)).1
    exact (N.kinds x.1 (List.mem_append_left _ hx1)).imp id fun q => ⟨q, by
      obtain ⟨c, hc⟩ := lookup_of_name (cellsFrom_mem fd.scope.names (s.heap.objs.size + 1) [] x.1 (.inl (PySem.mem_of_lookup q)))
      rw [hc]; rfl⟩
  · obtain ⟨F, hge, e₁⟩ := N.start (C := C) (f := f) hK hL hlen r k x
    refine (y s.heap.objs.size).go _ s₁ _ _ F fun fl s₂ k₂ o₂ => ?_
    obtain ⟨v, rfl, rv⟩ := o₂
    refine h v s₂ (KB.new e₁ k₂ (fun a ha => .inr (hge a ha)) fun g hg => nomatch hg) (rv.sub fun a ha => mem_less.mpr ⟨List.mem_append_right _ ha, fun hm => ?_⟩)
    obtain ⟨o', e⟩ := hL a ha
    rw [hge a hm] at e; cases e
end Mine
end
section
open PySem PySem.W PyProof.Rows PySem.Calls
namespace Mine

/-- a comprehension's loop, its body left open -/
theorem compLoop_any {prog : Program} {w : World} {A : Around} {R : Result → Shared → Prop} {s : Shared} {elt target iter : Expr} {gens : List Comprehension} {ifs : List Expr} {scope : Scope} {pos : Pos} {depth : Nat} {it acc : Value} {env : Env} (body : Sem Unit)
    (heq : compTurn (.ListComp elt gens scope pos) depth it acc env = (do
      standAt iter.pos
      match ← pyNext it with
      | none => pure (.done .next)
      | some v =>
        letOwnedTupleGo target it v
        assign target env v
        let mut ok := true
        for c in ifs do
          if ok then ok ← isTrue c env (eval c env)
        if ok then body
        again (.compLoop (.ListComp elt gens scope pos) depth it acc env)))
    (I : Nat → Shared → Prop)
    (turn : ∀ n s, I n s → wpAny (model prog w) A (pyNext it) (fun r s₁ => match r with
      | none => R (.ok .next) s₁
      | some v => wpAny (model prog w) A (letOwnedTupleGo target it v) (fun _ s₁' => wpAny (model prog w) A (assign target env v) (fun _ s₂ =>
          wpAny (model prog w) A (forIn ifs true fun c r => if r = true then do let ok ← isTrue c env (eval c env); pure (ForInStep.yield ok) else pure (ForInStep.yield r)) (fun ok s₃ =>
            if ok = true then wpAny (model prog w) A body (fun _ s₅ => ∃ m, m < n ∧ I m s₅) (notedBy (model prog w) A env fun e s' => R (.error e) s') s₃
            else ∃ m, m < n ∧ I m s₃) (notedBy (model prog w) A env fun e s' => R (.error e) s') s₂) (notedBy (model prog w) A env fun e s' => R (.error e) s') s₁') (notedBy (model prog w) A env fun e s' => R (.error e) s') s₁) (notedBy (model prog w) A env fun e s' => R (.error e) s') s)
    (n : Nat) (h : I n s) : codeAny (model prog w) A (.compLoop (.ListComp elt gens scope pos) depth it acc env) R s := by
  refine codeAny_loop rfl I (fun n s hI => ?_) n h
  show wpAny _ A ((compTurn (.ListComp elt gens scope pos) depth it acc env).onRaise (fun x => do noteFrame x env; theTreesLotGoes x)) _ _ s
  refine wpAny_noted ?_
  rw [heq]
  refine wpAny_bind (wpAny_standAt (wpAny_bind (wpAny_mono (turn n s hI) (fun r s₁ h₁ => ?_) fun _ _ h' => h')))
  cases r with
  | none => exact wpAny_pure h₁
  | some v =>
    refine wpAny_bind (wpAny_mono h₁ (fun _ s₁' h₁' => ?_) fun _ _ h' => h')
    refine wpAny_bind (wpAny_mono h₁' (fun _ s₂ h₂ => wpAny_bind (wpAny_mono h₂ (fun ok s₃ h₃ => ?_) fun _ _ h' => h')) fun _ _ h' => h')
    cases ok with
    | false => exact wpAny_pure ⟨rfl, h₃⟩
    | true => exact wpAny_bind (wpAny_mono h₃ (fun _ s₅ h₅ => wpAny_pure ⟨rfl, h₅⟩) fun _ _ h' => h')

theorem compStart_any {prog : Program} {w : World} {A : Around} {R : Result → Shared → Prop} {s : Shared} {elt : Expr} {gens : List Comprehension} {g : Comprehension} {scope : Scope} {pos : Pos} {depth : Nat} {it acc : Value} {env : Env} (hg : gens[depth]? = some g) (ha : g.is_async = 0)
    (h0 : codeAny (model prog w) A (.compLoop (.ListComp elt gens scope pos) depth it acc env) R s)
    (h : wpAny (model prog w) A (pyIter it) (fun it' s' => codeAny (model prog w) A (.compLoop (.ListComp elt gens scope pos) depth it' acc env) R s')
      (notedBy (model prog w) A env fun x s' => R (.error x) s') s) :
    codeAny (model prog w) A (.compStart (.ListComp elt gens scope pos) depth it acc env) R s := by
  refine codeAny_of_tree ?_
  show wpAny _ _ ((compStart (.ListComp elt gens scope pos) depth it acc env).onRaise (fun x => do noteFrame x env; standAt theWindowsPlace)) _ _ s
  refine wpAny_notedAt ?_
  unfold compStart
  have e1 : (clausesOf (.ListComp elt gens scope pos))[depth]? = some g := hg
  rw [e1]
  have e2 : ((some g).elim false fun x => x.is_async != 0) = false := by show (g.is_async != 0) = false; rw [ha]; rfl
  rw [e2]
  show wpAny _ _ (ask >>= _) _ _ s
  refine wpAny_bind (wpAny_askSetting (wpAny_ite ?_))
  split
  · first
      | exact wpAny_bind (wpAny_pure (wpAny_pure (And.intro rfl h0)))
      | exact wpAny_pure (And.intro rfl h0)
  · first
      | exact wpAny_bind (wpAny_rule (wpAny_bind (wpAny_standAt (wpAny_bind (wpAny_mono h (fun it' s' h' => wpAny_pure (And.intro rfl h')) fun _ _ x => x)))))
      | (refine wpAny_bind (wpAny_rule ?_); show wpAny _ _ (standAt _ >>= _) _ _ s; exact wpAny_bind (wpAny_standAt (wpAny_bind (wpAny_mono h (fun it' s' h' => wpAny_pure (And.intro rfl h')) fun _ _ x => x))))

/-- a comprehension under way: its list D holds os -/
structure CS (C : Cx) (D : Addr) (X : List Addr) (vals : List VV) (os : List PV) (s : Shared) : Prop where
  fs : FS C [C.env.locals] X vals s.heap
  dX : D ∈ X
  dL : D ≠ C.env.locals
  dF : D ∉ C.fix
  dT : C.hT.get? D = none
  obj : ∃ ws n, s.heap.get? D = some (lstO ws n) ∧ RpL X s.heap ws os

section
variable {C : Cx} {D : Addr} {X : List Addr}

theorem CS.ext {v : List VV} {os : List PV} {s s' : Shared} (c : CS C D X v os s) (e : Ext s s') : CS C D X v os s' :=
  ⟨c.fs.ext e.k, c.dX, c.dL, c.dF, c.dT, let ⟨ws, n, a, b⟩ := c.obj; ⟨ws, n, e.k _ _ a, b.ext e.k⟩⟩
/-- the frame's own locals turn -/
theorem CS.loc {v v' : List VV} {os : List PV} {s s' : Shared} (c : CS C D X v os s) (k : KB [C.env.locals] [] s s') (F : FS C [C.env.locals] X v' s'.heap) : CS C D X v' os s' := by
  obtain ⟨ws, n, a, b⟩ := c.obj
  exact ⟨F, c.dX, c.dL, c.dF, c.dT, ws, n, k.keep _ _ (fun q => c.dL (List.mem_singleton.mp q)) a, b.keep fun z o hz e => k.keep z o (fun q => hz (c.fs.sub z q)) e⟩
/-- slots forgotten -/
theorem FS.forget {Mt : List Addr} {v v' : List VV} {h : Heap} (F : FS C Mt X v h) (hf : ∀ (i : Nat) (y : VV), v'[i]? = some y → y = .u ∨ v[i]? = some y) : FS C Mt X v' h := by
  refine ⟨⟨F.fv.kp, F.fv.live, F.fv.kind, F.fv.dbg, fun i x y hi hv hu => F.fv.var i x y hi ((hf i y hv).resolve_left hu) hu⟩, F.sub, F.top, F.loc, F.cel, F.fxl, F.fxm, F.nsx, F.cell, F.apart, F.kinds, F.nd, fun i a l hv => ?_⟩
  exact F.om i a l ((hf i _ hv).resolve_left (fun e => nomatch e))
theorem CS.forget {v v' : List VV} {os : List PV} {s : Shared} (c : CS C D X v os s) (hf : ∀ (i : Nat) (y : VV), v'[i]? = some y → y = .u ∨ v[i]? = some y) : CS C D X v' os s :=
  ⟨c.fs.forget hf, c.dX, c.dL, c.dF, c.dT, c.obj⟩

/-- what a turn's body adds -/
structure CBody (C : Cx) (D : Addr) (v1 : List VV) (body : Sem Unit) (outs : List PV) : Prop where
  go : ∀ (X : List Addr) (s : Shared) (E : Value → Shared → Prop) (Q : Unit → Shared → Prop) (os : List PV), CS C D X v1 os s → os.length + outs.length ≤ sizeLine →
    (∀ s', KB [D, C.env.locals] [] s s' → CS C D X v1 (os ++ outs) s' → Q () s') → wpAny C.M C.A body Q E s
/-- a turn's tests -/
inductive CT (C : Cx) (v1 : List VV) : List Expr → Bool → Prop
  | nil : CT C v1 [] true
  | one {c : Expr} {b : Bool} : Ts C v1 c b → CT C v1 [c] b
theorem CT.go {v1 : List VV} {ifs : List Expr} {b : Bool} (t : CT C v1 ifs b) {s : Shared} {E : Value → Shared → Prop} {Q : Bool → Shared → Prop} (F : FV C X v1 s.heap) (h : ∀ s', Ext s s' → Q b s') :
    wpAny C.M C.A (forIn ifs true fun c r => if r = true then do let ok ← isTrue c C.env (eval c C.env); pure (ForInStep.yield ok) else pure (ForInStep.yield r)) Q E s := by
  cases t with
  | nil => exact wpAny_tests_nil (h s KB.refl)
  | one t => exact wpAny_tests_one (t.go X s E Q F h)

theorem CBody.emit {v1 : List VV} {elt : Expr} {d : PV} (y : Ev C v1 elt d) : CBody C D v1 (do let _ ← call (.builtin "list.append") [.ref D, ← eval elt C.env]) [d] := .mk fun X s E Q os c hz h => by
  refine wpAny_bind (y.go X s E _ c.fs.fv fun v s₁ e₁ r₁ => ?_)
  have c₁ := c.ext e₁
  obtain ⟨ws, n, ho, hr⟩ := c₁.obj
  refine wpAny_bind (wpAny_list_append_plain (items := ws.toArray) ⟨n, ho⟩ (fun h' hp hsb => ?_) (by simp only [List.size_toArray, hr.length]; simp at hz; omega))
  obtain ⟨n', hp⟩ := hp
  have kb : KB [D] [] s₁ { s₁ with heap := h' } := ⟨fun b o hb e => (hsb.2 b (fun q => hb (q ▸ List.mem_singleton.mpr rfl))).trans e, fun _ _ _ e => e, id, rfl⟩
  have F₂ : FS C [C.env.locals] X v1 h' := c₁.fs.kb kb (fun a ha => by rw [List.mem_singleton.mp ha]; exact ⟨c.dX, fun q => c.dL (List.mem_singleton.mp q), c.dF, c.dT⟩) (fun a ha => by rw [List.mem_singleton.mp ha]; exact ⟨_, hp⟩)
  have rk : ∀ a o, a ∉ X → s₁.heap.get? a = some o → h'.get? a = some o := fun b o hb e => (hsb.2 b (fun z => hb (z ▸ c.dX))).trans e
  refine wpAny_pure (h _ ((KB.wide e₁).trans (kb.mono (fun a ha => by rw [List.mem_singleton.mp ha]; exact List.mem_cons_self) fun g hg => nomatch hg)) ⟨F₂, c.dX, c.dL, c.dF, c.dT, ws ++ [v], n', ?_, (hr.keep rk).append (.one (r₁.keep rk))⟩)
  rw [hp]; simp [lstO]

theorem comp_loop {W : List Addr} {Gt : List Nat} {it : Value} {xs : List PV} {J : Nat → Shared → Prop} {s : Shared} {R : Result → Shared → Prop} {bv : List VV} {os : List PV} {elt target iter : Expr} {gens : List Comprehension} {ifs : List Expr} {scope : Scope} {pos : Pos} {depth : Nat} (body : Sem Unit)
    (heq : compTurn (.ListComp elt gens scope pos) depth it (.ref D) C.env = (do
      standAt iter.pos
      match ← pyNext it with
      | none => pure (.done .next)
      | some v =>
        letOwnedTupleGo target it v
        assign target C.env v
        let mut ok := true
        for c in ifs do
          if ok then ok ← isTrue c C.env (eval c C.env)
        if ok then body
        again (.compLoop (.ListComp elt gens scope pos) depth it (.ref D) C.env)))
    (wk : Wk C (W ++ X) W Gt it xs J) (hJ : J 0 s) (cs : CS C D (W ++ X) bv os s) (hDX : D ∈ X) (hLX : C.env.locals ∈ X)
    (hW : ∀ a ∈ W, a ∉ X ∧ a ∉ C.fix ∧ C.hT.get? a = none) (g : PV → List PV) (hz : os.length + (xs.flatMap g).length ≤ sizeLine)
    (turn : ∀ x ∈ xs, ∃ v1 b outs, Asg C [C.env.locals] target x bv v1 ∧ CT C v1 ifs b ∧ (b = true → CBody C D v1 body outs) ∧ g x = (if b then outs else []) ∧ (∀ (i : Nat) (y : VV), bv[i]? = some y → y = .u ∨ v1[i]? = some y))
    (hR : ∀ s', KB (D :: C.env.locals :: W) Gt s s' → CS C D X bv (os ++ xs.flatMap g) s' → R (.ok .next) s') :
    codeAny C.M C.A (.compLoop (.ListComp elt gens scope pos) depth it (.ref D) C.env) R s := by
  have hLW : C.env.locals ∉ W := fun q => (hW _ q).1 hLX
  have hDW : D ∉ W := fun q => (hW _ q).1 hDX
  have hWt : ∀ a ∈ W, a ∈ W ++ X ∧ a ∉ [C.env.locals] ∧ a ∉ C.fix ∧ C.hT.get? a = none := fun a ha => ⟨List.mem_append_left _ ha, fun q => hLW (List.mem_singleton.mp q ▸ ha), (hW a ha).2⟩
  have hWX : ∀ a ∈ W, a ∉ X ∧ a ∉ [C.env.locals] ∧ a ∉ C.fix ∧ C.hT.get? a = none := fun a ha => ⟨(hW a ha).1, (hWt a ha).2⟩
  have kw : ∀ {s₁ s₂ : Shared}, KB W Gt s₁ s₂ → KB (D :: C.env.locals :: W) Gt s₁ s₂ := fun k => k.mono (fun a ha => List.mem_cons_of_mem _ (List.mem_cons_of_mem _ ha)) fun g hg => hg
  have csW : ∀ {s₁ s₂ : Shared} {v : List VV} {o : List PV}, CS C D (W ++ X) v o s₁ → KB W Gt s₁ s₂ → Live W s₂.heap → CS C D (W ++ X) v o s₂ := fun c k hl => by
    obtain ⟨ws, n, a, b⟩ := c.obj
    exact ⟨c.fs.kb k hWt hl, c.dX, c.dL, c.dF, c.dT, ws, n, k.keep _ _ hDW a, b.keep fun z o hz e => k.keep z o (fun q => hz (List.mem_append_left _ q)) e⟩
  refine compLoop_any body heq (fun n s' => ∃ pre post, xs = pre ++ post ∧ n = post.length ∧ J pre.length s' ∧ CS C D (W ++ X) bv (os ++ pre.flatMap g) s' ∧ KB (D :: C.env.locals :: W) Gt s s') ?_ xs.length ⟨[], xs, rfl, rfl, hJ, by simpa using cs, KB.refl⟩
  rintro n s₁ ⟨pre, post, hxs, hn, hJ₁, c₁, k₁⟩
  cases post with
  | nil =>
    have hlen : pre.length = xs.length := by rw [hxs]; simp
    refine wk.done s₁ _ _ (hlen ▸ hJ₁) c₁.fs.fv.kp fun s₂ k₂ => ?_
    refine hR s₂ (k₁.trans (kw k₂)) ?_
    obtain ⟨ws, n', a, b⟩ := c₁.obj
    have e : pre = xs := by rw [hxs]; simp
    rw [← e]
    exact ⟨c₁.fs.leave k₂ hWX (fun a ha => by rw [List.mem_singleton.mp ha]; exact hLX), hDX, c₁.dL, c₁.dF, c₁.dT, ws, n', k₂.keep _ _ hDW a, (b.keep fun z o hz e => k₂.keep z o (fun q => hz (List.mem_append_left _ q)) e).sub fun a ha => List.mem_append_right _ ha⟩
  | cons x post =>
    have hx : xs[pre.length]? = some x := by rw [hxs]; simp
    have hxm : x ∈ xs := by rw [hxs]; simp
    refine wk.next pre.length s₁ _ _ x hJ₁ c₁.fs.fv.kp hx fun v s₂ k₂ r₂ hJ₂ hl₂ => ?_
    have c₂ := csW c₁ k₂ hl₂
    refine wk.go _ s₂ _ _ target v hJ₂ ?_
    obtain ⟨v1, b, outs, asg, ct, bd, hg, hf⟩ := turn x hxm
    refine asg.go (W ++ X) s₂ _ _ v c₂.fs r₂ fun s₃ k₃ F₃ => ?_
    have c₃ := c₂.loc k₃ F₃
    have hJ₃ := wk.stable _ _ _ [C.env.locals] hJ₂ k₃ fun a ha => by rw [List.mem_singleton.mp ha]; exact ⟨List.mem_append_right _ hLX, hLW⟩
    refine ct.go c₃.fs.fv fun s₄ e₄ => ?_
    have c₄ := c₃.ext e₄
    have hJ₄ := wk.stable _ _ _ [] hJ₃ e₄ fun a ha => nomatch ha
    have k₄ : KB (D :: C.env.locals :: W) Gt s s₄ := ((k₁.trans (kw k₂)).trans (k₃.mono (fun a ha => by rw [List.mem_singleton.mp ha]; exact List.mem_cons_of_mem _ List.mem_cons_self) fun g hg => nomatch hg)).trans (KB.wide e₄)
    have hfl : (os ++ (pre ++ [x]).flatMap g) = os ++ pre.flatMap g ++ g x := by simp
    cases b with
    | false =>
      simp only [Bool.false_eq_true, if_false]
      refine ⟨post.length, by rw [hn]; simp, pre ++ [x], post, by rw [hxs]; simp, rfl, by simpa using hJ₄, ?_, k₄⟩
      rw [hfl, hg]
      simpa using c₄.forget hf
    | true =>
      simp only [if_true]
      have hz' : (os ++ pre.flatMap g).length + outs.length ≤ sizeLine := by
        have : (os ++ pre.flatMap g).length + outs.length ≤ os.length + (xs.flatMap g).length := by
          rw [hxs]
          simp only [List.length_append, List.flatMap_append, List.flatMap_cons, hg, if_true]
          omega
        omega
      refine (bd rfl).go (W ++ X) s₄ _ _ _ c₄ hz' fun s₅ k₅ c₅ => ?_
      have hJ₅ := wk.stable _ _ _ [D, C.env.locals] hJ₄ k₅ fun a ha => by
        rcases List.mem_cons.mp ha with rfl | ha
        · exact ⟨List.mem_append_right _ hDX, hDW⟩
        · rw [List.mem_singleton.mp ha]; exact ⟨List.mem_append_right _ hLX, hLW⟩
      refine ⟨post.length, by rw [hn]; simp, pre ++ [x], post, by rw [hxs]; simp, rfl, by simpa using hJ₅, ?_, k₄.trans (k₅.mono (fun a ha => ?_) fun g hg => nomatch hg)⟩
      · rw [hfl, hg]
        simpa using c₅.forget hf
      · rcases List.mem_cons.mp ha with rfl | ha
        · exact List.mem_cons_self
        · exact List.mem_cons_of_mem _ (List.mem_cons.mpr (.inl (List.mem_singleton.mp ha)))
end
end Mine
end
section
open PySem PySem.W PyProof.Rows PySem.Calls
namespace Mine

theorem closure_go (env : Env) : ∀ (names : List (Str × NameKind)) (acc : List (Str × Addr)), (∀ x, (x, NameKind.free) ∈ names → ∃ c, env.cells.lookup x = some c) →
    ∃ cl, (forIn names acc fun (nk : Str × NameKind) (cs : List (Str × Addr)) => (if (nk.2 == NameKind.free) = true then do let c ← cellOf env nk.1; pure (ForInStep.yield ((nk.1, c) :: cs)) else pure (ForInStep.yield cs) : Sem (ForInStep (List (Str × Addr))))) = pure cl ∧
      (∀ x c, (x, c) ∈ cl → (x, c) ∈ acc ∨ ((x, NameKind.free) ∈ names ∧ env.cells.lookup x = some c)) ∧ (∀ x, ((x, NameKind.free) ∈ names ∨ x ∈ acc.map (·.1)) → x ∈ cl.map (·.1)) := by
  intro names
  induction names with
  | nil => intro acc _; exact ⟨acc, rfl, fun x c h => .inl h, fun x h => h.resolve_left (fun q => nomatch q)⟩
  | cons y names ih =>
    intro acc h
    obtain ⟨y, k⟩ := y
    rw [List.forIn_cons]
    by_cases hk : (k == NameKind.free) = true
    · have hk' : k = .free := by simpa using hk
      subst hk'
      obtain ⟨c, hc⟩ := h y List.mem_cons_self
      obtain ⟨cl, e, h1, h2⟩ := ih ((y, c) :: acc) fun x hx => h x (List.mem_cons_of_mem _ hx)
      refine ⟨cl, ?_, fun x c' hm => ?_, fun x hm => ?_⟩
      · have e1 : cellOf env y = pure c := by unfold cellOf; rw [hc]
        simp only [beq_self_eq_true, if_true, e1, pure_bind]
        exact e
      · rcases h1 x c' hm with hm | ⟨hm, q⟩
        · rcases List.mem_cons.mp hm with e | hm
          · cases e; exact .inr ⟨List.mem_cons_self, hc⟩
          · exact .inl hm
        · exact .inr ⟨List.mem_cons_of_mem _ hm, q⟩
      · refine h2 x ?_
        rcases hm with hm | hm
        · rcases List.mem_cons.mp hm with e | hm
          · cases e; exact .inr (by simp)
          · exact .inl hm
        · exact .inr (by simp at hm ⊢; exact .inr hm)
    · obtain ⟨cl, e, h1, h2⟩ := ih acc fun x hx => h x (List.mem_cons_of_mem _ hx)
      refine ⟨cl, ?_, fun x c' hm => ?_, fun x hm => ?_⟩
      · simp only [hk, if_false, pure_bind]
        exact e
      · rcases h1 x c' hm with hm | ⟨hm, q⟩
        · exact .inl hm
        · exact .inr ⟨List.mem_cons_of_mem _ hm, q⟩
      · refine h2 x ?_
        rcases hm with hm | hm
        · rcases List.mem_cons.mp hm with e | hm
          · cases e; simp at hk
          · exact .inl hm
        · exact .inr hm
theorem closure_ok {scope : Scope} {env : Env} (h : ∀ x, (x, NameKind.free) ∈ scope.names → ∃ c, env.cells.lookup x = some c) :
    ∃ cl, closureFor scope env = pure cl ∧ (∀ x c, (x, c) ∈ cl → (x, NameKind.free) ∈ scope.names ∧ env.cells.lookup x = some c) ∧ (∀ x, (x, NameKind.free) ∈ scope.names → ∃ c, cl.lookup x = some c ∧ env.cells.lookup x = some c) := by
  obtain ⟨cl, e, h1, h2⟩ := closure_go env scope.names [] h
  refine ⟨cl, ?_, fun x c hm => (h1 x c hm).resolve_left (fun q => nomatch q), fun x hx => ?_⟩
  · unfold closureFor
    have : (forIn scope.names [] fun (nk : Str × NameKind) (cs : List (Str × Addr)) => (if (nk.2 == NameKind.free) = true then do let c ← cellOf env nk.1; pure (ForInStep.yield ((nk.1, c) :: cs)) else pure (ForInStep.yield cs) : Sem (ForInStep (List (Str × Addr))))) >>= (fun cs => pure cs) = pure cl := by rw [e, pure_bind]
    rw [← this]
  · obtain ⟨c, hc⟩ := lookup_of_name (h2 x (.inl hx))
    exact ⟨c, hc, ((h1 x c (PySem.mem_of_lookup hc)).resolve_left (fun q => nomatch q)).2⟩

theorem lookup_relabel_free {env : Env} : ∀ {names : List (Str × NameKind)} {x : Str}, names.lookup x = some .free → env.scope.kind = .function → env.kindOf x = some .cell →
    (names.map fun (n, k) => if (k == NameKind.free && env.scope.kind == .function && env.kindOf n == some .cell) then (n, NameKind.cell) else (n, k)).lookup x = some .cell
  | [], _, h, _, _ => by simp at h
  | (n, k) :: r, x, h, hk, hc => by
    have ih := @lookup_relabel_free env r x
    show List.lookup x ((if (k == NameKind.free && env.scope.kind == .function && env.kindOf n == some .cell) = true then (n, NameKind.cell) else (n, k)) :: _) = _
    cases hx : x == n with
    | true =>
      simp only [List.lookup_cons, hx] at h
      cases h
      have e := beq_iff_eq.mp hx
      subst e
      simp [List.lookup_cons, hk, hc]
    | false =>
      simp only [List.lookup_cons, hx] at h
      by_cases hc' : (k == NameKind.free && env.scope.kind == .function && env.kindOf n == some .cell) = true
      · rw [if_pos hc']; simp only [List.lookup_cons, hx]; exact ih h hk hc
      · rw [if_neg hc']; simp only [List.lookup_cons, hx]; exact ih h hk hc

noncomputable def Cx.comp (C : Cx) (scope : Scope) (cl : List (Str × Addr)) (Lc : Addr) (cns : List Str) : Cx := { C with env := compEnvC scope cl Lc C.env, ns := cns, fix := cl.map (·.2) }

/-- a comprehension's table -/
structure CScope (C : Cx) (vals : List VV) (scope : Scope) (locs frees : List Str) (fds : List PV) : Prop where
  kind : scope.kind = .function
  names : ∀ x ∈ scope.names, x.2 = .local → scope.names.lookup x.1 = some .local
  nocell : ∀ x ∈ scope.names, x.2 ≠ .cell
  loc : ∀ x ∈ locs, scope.names.lookup x = some .local
  len : frees.length = fds.length
  fre : ∀ (i : Nat) (x : Str) (d : PV), frees[i]? = some x → fds[i]? = some d → scope.names.lookup x = some .free ∧ C.env.kindOf x = some .cell ∧ ∃ j : Nat, C.ns[j]? = some x ∧ vals[j]? = some (.p d)
  all : ∀ x, (x, NameKind.free) ∈ scope.names → x ∈ frees
  nd : (locs ++ frees).Nodup
  dbg : ∀ x ∈ locs ++ frees, (x == ("__debug__" : Str)) = false
noncomputable def baseV (locs : List Str) (fds : List PV) : List VV := List.replicate locs.length .u ++ fds.map .p

theorem CScope.frame {C : Cx} {vals : List VV} {scope : Scope} {locs frees : List Str} {fds : List PV} {X : List Addr} {h : Heap} (S : CScope C vals scope locs frees fds) (F : FV C X vals h) :
    ∃ cl, closureFor scope C.env = pure cl ∧ ∀ (Lc : Addr) (X' : List Addr) (h' : Heap) (m : Str → Option Value), (∀ a o, h.get? a = some o → h'.get? a = some o) → h.get? Lc = none → h'.Ns Lc m → Lc ∈ X' → (∀ a ∈ X, a ∈ X') → Live X' h' → (∀ a ∈ X', a ∈ X ∨ h.get? a = none) →
      FS (C.comp scope cl Lc (locs ++ frees)) [Lc] X' (baseV locs fds) h' ∧ (∀ a ∈ cl.map (·.2), ∃ o, h.get? a = some o) := by
  -- each free name's cell
  have hcell : ∀ x, x ∈ frees → ∃ c d v, C.env.cells.lookup x = some c ∧ h.IsCell c (some v) ∧ Rp X h v d ∧ C.env.kindOf x = some .cell ∧ scope.names.lookup x = some .free := fun x hx => by
    obtain ⟨i, hi⟩ := List.getElem?_of_mem hx
    have hl : i < fds.length := by rw [← S.len]; exact (List.getElem?_eq_some_iff.mp hi).1
    obtain ⟨h1, h2, j, h3, h4⟩ := S.fre i x _ hi (List.getElem?_eq_getElem hl)
    obtain ⟨v, hv, r⟩ := F.var j x _ h3 h4 (fun e => nomatch e)
    cases r with | p r =>
    rcases hv with ⟨k, _⟩ | ⟨_, c, hc, hv⟩
    · rw [h2] at k; cases k
    · exact ⟨c, _, v, hc, hv, r, h2, h1⟩
  obtain ⟨cl, e, h1, h2⟩ := closure_ok (scope := scope) (env := C.env) fun x hx => let ⟨c, _, _, hc, _⟩ := hcell x (S.all x hx); ⟨c, hc⟩
  have hfl : ∀ a ∈ cl.map (·.2), ∃ o, h.get? a = some o := fun a ha => by
    obtain ⟨⟨x, c⟩, hm, rfl⟩ := List.mem_map.mp ha
    obtain ⟨hf, hc⟩ := h1 x c hm
    obtain ⟨c', _, v, hc', ⟨o, q, _⟩, _⟩ := hcell x (S.all x hf)
    rw [hc] at hc'; cases hc'
    exact ⟨o, q⟩
  refine ⟨cl, e, fun Lc X' h' m hk hL hn hLX hX hl hX' => ⟨?_, hfl⟩⟩
  have hclv : ∀ x c, cl.lookup x = some c → ∃ v, h.IsCell c (some v) := fun x c hc => by
    obtain ⟨hf, q⟩ := h1 x c (PySem.mem_of_lookup hc)
    obtain ⟨c', _, v, hc', hv, _⟩ := hcell x (S.all x hf)
    rw [q] at hc'; cases hc'
    exact ⟨v, hv⟩
  refine ⟨⟨F.kp.ext hk, hl, S.kind, S.dbg, fun i x y hi hv hu => ?_⟩, fun a ha => by rw [List.mem_singleton.mp ha]; exact hLX, fun a ha => ?_, List.mem_singleton.mpr rfl, fun x c hc => .inr (List.mem_map.mpr ⟨(x, c), PySem.mem_of_lookup hc, rfl⟩), fun a ha => let ⟨o, q⟩ := hfl a ha; ⟨o, hk a o q⟩, fun a ha hm => ?_, ⟨m, hn⟩,
    fun x c hc => let ⟨v, q⟩ := hclv x c hc; ⟨_, q.keeps hk⟩, fun hfx x y c hx _ => ?_, fun x hx => ?_, S.nd, fun i a l hv => ?_⟩
  · have hge : locs.length ≤ i := by
      rcases Nat.lt_or_ge i locs.length with q | q
      · have hv' : (List.replicate locs.length VV.u ++ fds.map .p)[i]? = some y := hv
        rw [List.getElem?_append_left (by simpa using q)] at hv'
        exact absurd (List.eq_of_mem_replicate (List.mem_of_getElem? hv')) hu
      · exact q
    have hi' : frees[i - locs.length]? = some x := by
      have : (locs ++ frees)[i]? = some x := hi
      rwa [List.getElem?_append_right hge] at this
    have hv' : (fds.map VV.p)[i - locs.length]? = some y := by
      have : (List.replicate locs.length VV.u ++ fds.map .p)[i]? = some y := hv
      rw [List.getElem?_append_right (by simpa using hge)] at this
      simpa using this
    rw [List.getElem?_map] at hv'
    cases hd : fds[i - locs.length]? with
    | none => rw [hd] at hv'; cases hv'
    | some d =>
      rw [hd] at hv'; cases hv'
      obtain ⟨q1, q2, j, q3, q4⟩ := S.fre _ x d hi' hd
      obtain ⟨v, hvr, r⟩ := F.var j x _ q3 q4 (fun e => nomatch e)
      cases r with | p r =>
      rcases hvr with ⟨k, _⟩ | ⟨_, c, hc, hv⟩
      · rw [q2] at k; cases k
      · obtain ⟨c', hc', hc''⟩ := h2 x (PySem.mem_of_lookup q1)
        rw [hc] at hc''; cases hc''
        exact ⟨v, .inr ⟨lookup_relabel_free q1 F.kind q2, c, hc', hv.keeps hk⟩, .p ((r.away fun a o e' ha hm => (hX' a hm).elim ha fun z => by rw [z] at e'; cases e').ext hk)⟩
  · rw [List.mem_singleton.mp ha]
    cases q : C.hT.get? Lc with
    | none => exact q
    | some o => have := F.kp _ o q; rw [hL] at this; cases this
  · obtain ⟨o, q⟩ := hfl a ha
    rw [List.mem_singleton.mp hm, hL] at q; cases q
  · have : cl = [] := by
      cases cl with
      | nil => rfl
      | cons a r => cases hfx
    have hx' : cl.lookup x = some c := hx
    rw [this] at hx'
    cases hx'
  · rcases List.mem_append.mp hx with hx | hx
    · exact .inl (lookup_relabel_local (S.loc x hx))
    · obtain ⟨c, _, _, hc, _, _, q2, q1⟩ := hcell x hx
      obtain ⟨c', hc', _⟩ := h2 x (PySem.mem_of_lookup q1)
      exact .inr ⟨lookup_relabel_free q1 F.kind q2, c', hc'⟩
  · have hm := List.mem_of_getElem? hv
    rcases List.mem_append.mp hm with hm | hm
    · exact absurd (List.eq_of_mem_replicate hm) (fun e => nomatch e)
    · obtain ⟨d, _, e⟩ := List.mem_map.mp hm; cases e

theorem Wk.cast {C C' : Cx} {X W : List Addr} {Gt : List Nat} {it : Value} {xs : List PV} {J : Nat → Shared → Prop} (k : Wk C X W Gt it xs J) (h1 : C'.hT = C.hT) (h2 : C'.prog = C.prog) (h3 : C'.w = C.w) (h4 : C'.A = C.A) : Wk C' X W Gt it xs J := by
  obtain ⟨p, w, hT, A, env, ns, fx⟩ := C
  obtain ⟨p', w', hT', A', env', ns', fx'⟩ := C'
  simp only at h1 h2 h3 h4
  subst h1 h2 h3 h4
  exact ⟨k.stable, k.next, k.done, k.go, k.self⟩

section
variable {C : Cx} {vals : List VV} {X : List Addr}
theorem comp_top {s : Shared} {E : Value → Shared → Prop} {Q : Value → Shared → Prop} {elt target iter : Expr} {ifs : List Expr} {rest : List Comprehension} {scope : Scope} {pos pos' : Pos} {locs frees : List Str} {fds : List PV} {p : PV} {xs : List PV} (use : Option (Value → Sem Unit))
    (S : CScope C vals scope locs frees fds) (F : FV C X vals s.heap) (src : Ev C vals iter p) (it : IterOK C p xs) (g : PV → List PV) (hz : (xs.flatMap g).length ≤ sizeLine) (body : Value → Addr → Env → Sem Unit)
    (heq : ∀ (itv : Value) (D : Addr) (env : Env), compTurn (.ListComp elt (⟨target, iter, ifs, 0⟩ :: rest) scope pos) 0 itv (.ref D) env = (do
      standAt iter.pos
      match ← pyNext itv with
      | none => pure (.done .next)
      | some v =>
        letOwnedTupleGo target itv v
        assign target env v
        let mut ok := true
        for c in ifs do
          if ok then ok ← isTrue c env (eval c env)
        if ok then body itv D env
        again (.compLoop (.ListComp elt (⟨target, iter, ifs, 0⟩ :: rest) scope pos) 0 itv (.ref D) env)))
    (turn : ∀ (cl : List (Str × Addr)) (Lc D : Addr) (itv : Value), ∀ x ∈ xs, ∃ v1 b outs, Asg (C.comp scope cl Lc (locs ++ frees)) [Lc] target x (baseV locs fds) v1 ∧ CT (C.comp scope cl Lc (locs ++ frees)) v1 ifs b ∧
      (b = true → CBody (C.comp scope cl Lc (locs ++ frees)) D v1 (body itv D (C.comp scope cl Lc (locs ++ frees)).env) outs) ∧ g x = (if b then outs else []) ∧ (∀ (i : Nat) (y : VV), (baseV locs fds)[i]? = some y → y = .u ∨ v1[i]? = some y))
    (hfin : ∀ v s' Lc m, Ext s s' → s.heap.get? Lc = none → s'.heap.Ns Lc m → Rp (Lc :: X) s'.heap v (.lst (xs.flatMap g)) → compPost C.M C.A E use Q v Lc (.ok .next) s')
    (hs : ∀ x, foldedSetIterable iter C.env x = pure x := by intro _; rfl) :
    wpAny C.M C.A (comprehension (.ListComp elt (⟨target, iter, ifs, 0⟩ :: rest) scope pos) scope C.env pos' (newList []) false (eval iter C.env) use) Q E s := by
  obtain ⟨cl, hcl, _⟩ := S.frame F
  refine wpAny_comprehension_free rfl hs hcl S.kind S.names (src.go X s E _ F fun v s₁ e₁ r₁ => it.go X s₁ E _ v (F.kp.ext e₁.k) (F.live.ext e₁.k) r₁ fun itv s₂ W Gt e₂ hW hlW hG hwk => ?_)
  -- the list and the block's names
  refine wpAny_newList (items := []) ?_ (by decide)
  refine wpAny_newFunctionEnv (s := { s₂ with heap := s₂.heap.push { cls := .type "list", data := .seq ([] : List Value).toArray } }) S.nocell (by intro y hy; simp at hy) (fun h₄ hns hsb => ?_) S.kind
  dsimp only at hns hsb ⊢
  obtain ⟨cl', hcl', frame⟩ := S.frame (F.ext e₁.k)
  have hcc : cl' = cl := by
    have : (pure cl' : Sem (List (Str × Addr))) = pure cl := hcl'.symm.trans hcl
    exact Sem.pure.inj this
  subst hcc
  have hD : s₂.heap.get? s₂.heap.objs.size = none := get_size
  generalize hH : s₂.heap.push { cls := .type "list", dict := none, data := .seq ([] : List Value).toArray } = H at hns hsb ⊢
  have hHsz : H.objs.size = s₂.heap.objs.size + 1 := by rw [← hH, Heap.size_push]
  have hDL : s₂.heap.objs.size ≠ H.objs.size := by rw [hHsz]; omega
  have hkeep : ∀ a o, s₂.heap.get? a = some o → h₄.get? a = some o := fun a o e => by
    have h1 : H.get? a = some o := hH ▸ Heap.get?_push_of_some _ e
    exact hsb.extBut a o (Nat.ne_of_lt (Heap.lt_size h1)) (Heap.get?_push_of_some _ h1)
  have hDobj : h₄.get? s₂.heap.objs.size = some (lstO [] 0) := by
    have h1 : H.get? s₂.heap.objs.size = some (lstO [] 0) := hH ▸ Heap.get?_push_size _ rfl
    exact hsb.extBut _ _ hDL (Heap.get?_push_of_some _ h1)
  have hLn : s₂.heap.get? H.objs.size = none := by
    cases e : s₂.heap.get? H.objs.size with
    | none => rfl
    | some o => exact absurd (Nat.lt_of_succ_lt (hHsz ▸ Heap.lt_size e)) (Nat.lt_irrefl _)
  have hLobj : ∃ o, h₄.get? H.objs.size = some o := let ⟨o, _, _, e, _⟩ := hns; ⟨o, e⟩
  have back : ∀ a, s₂.heap.get? a = none → s₁.heap.get? a = none := fun a e => by
    cases q : s₁.heap.get? a with
    | none => rfl
    | some o => have := e₂.k a o q; rw [e] at this; cases this
  have back0 : ∀ a, s₁.heap.get? a = none → s.heap.get? a = none := fun a e => by
    cases q : s.heap.get? a with
    | none => rfl
    | some o => have := e₁.k a o q; rw [e] at this; cases this
  have Lv : Live (W ++ (s₂.heap.objs.size :: H.objs.size :: X)) h₄ := fun a ha => by
    rcases List.mem_append.mp ha with ha | ha
    · obtain ⟨o, e⟩ := hlW a ha; exact ⟨o, hkeep a o e⟩
    · rcases List.mem_cons.mp ha with rfl | ha
      · exact ⟨_, hDobj⟩
      · rcases List.mem_cons.mp ha with rfl | ha
        · exact hLobj
        · obtain ⟨o, e⟩ := F.live a ha; exact ⟨o, hkeep a o (e₂.k a o (e₁.k a o e))⟩
  obtain ⟨FS₄, hfl⟩ := frame H.objs.size (W ++ (s₂.heap.objs.size :: H.objs.size :: X)) h₄ _ (fun a o e => hkeep a o (e₂.k a o e)) (back _ hLn) hns (List.mem_append_right _ (List.mem_cons_of_mem _ List.mem_cons_self)) (fun a ha => List.mem_append_right _ (List.mem_cons_of_mem _ (List.mem_cons_of_mem _ ha))) Lv (fun a ha => by
    rcases List.mem_append.mp ha with ha | ha
    · exact .inr (hW a ha)
    · rcases List.mem_cons.mp ha with rfl | ha
      · exact .inr (back _ hD)
      · rcases List.mem_cons.mp ha with rfl | ha
        · exact .inr (back _ hLn)
        · exact .inl ha)
  have hT0 : ∀ a, s₂.heap.get? a = none → C.hT.get? a = none := fun a e => by
    cases q : C.hT.get? a with
    | none => rfl
    | some o => have := e₂.k a o (e₁.k a o (F.kp a o q)); rw [e] at this; cases this
  have hfx : ∀ a, s₁.heap.get? a = none → a ∉ cl'.map (·.2) := fun a e hm => by
    obtain ⟨o, q⟩ := hfl a hm
    rw [e] at q; cases q
  have cs : CS (C.comp scope cl' H.objs.size (locs ++ frees)) s₂.heap.objs.size (W ++ (s₂.heap.objs.size :: H.objs.size :: X)) (baseV locs fds) [] { s₂ with heap := h₄, toks := s₂.toks } :=
    ⟨FS₄, List.mem_append_right _ List.mem_cons_self, hDL, hfx _ (back _ hD), hT0 _ hD, [], 0, hDobj, .nil⟩
  -- the iterator's word, at the wider X
  have hWnew : ∀ a ∈ W, a ∉ (s₂.heap.objs.size :: H.objs.size :: X) ∧ a ∉ (C.comp scope cl' H.objs.size (locs ++ frees)).fix ∧ C.hT.get? a = none := fun a ha => by
    obtain ⟨o, e⟩ := hlW a ha
    refine ⟨fun hm => ?_, hfx a (hW a ha), ?_⟩
    · rcases List.mem_cons.mp hm with rfl | hm
      · rw [hD] at e; cases e
      · rcases List.mem_cons.mp hm with rfl | hm
        · rw [hLn] at e; cases e
        · obtain ⟨o', q⟩ := F.live a hm
          have := e₁.k a o' q
          rw [hW a ha] at this; cases this
    · cases q : C.hT.get? a with
      | none => rfl
      | some o' => have := e₁.k a o' (F.kp a o' q); rw [hW a ha] at this; cases this
  obtain ⟨J, wk, hJ⟩ := hwk [s₂.heap.objs.size, H.objs.size] (fun a ha => by
    rcases List.mem_cons.mp ha with rfl | ha
    · exact hD
    · rw [List.mem_singleton.mp ha]; exact hLn)
  have ext4 : Ext s₂ { s₂ with heap := h₄, toks := s₂.toks } := Ext.of hkeep
  have hJ₄ := wk.stable 0 _ _ [] hJ ext4 (fun a ha => nomatch ha)
  have wk' : Wk (C.comp scope cl' H.objs.size (locs ++ frees)) (W ++ (s₂.heap.objs.size :: H.objs.size :: X)) W Gt itv xs J := wk.cast rfl rfl rfl rfl
  have loop : codeAny C.M C.A (.compLoop (.ListComp elt (⟨target, iter, ifs, 0⟩ :: rest) scope pos) 0 itv (.ref s₂.heap.objs.size) (compEnvC scope cl' H.objs.size C.env)) (compPost C.M C.A E use Q (.ref s₂.heap.objs.size) H.objs.size) { s₂ with heap := h₄, toks := s₂.toks } := by
    refine comp_loop (C := C.comp scope cl' H.objs.size (locs ++ frees)) (D := s₂.heap.objs.size) (X := s₂.heap.objs.size :: H.objs.size :: X) (body itv s₂.heap.objs.size (C.comp scope cl' H.objs.size (locs ++ frees)).env) (heq _ _ _) wk' hJ₄ cs List.mem_cons_self (List.mem_cons_of_mem _ List.mem_cons_self) hWnew g (by simpa using hz) (turn cl' H.objs.size s₂.heap.objs.size itv) fun s₅ k₅ c₅ => ?_
    obtain ⟨ws, n', ho, hr⟩ := c₅.obj
    obtain ⟨m', hm'⟩ := c₅.fs.nsx
    have ext5 : Ext s s₅ := KB.new ((e₁.trans e₂).trans ext4) k₅ (fun a ha => .inr (by
      rcases List.mem_cons.mp ha with rfl | ha
      · exact back0 _ (back _ hD)
      · rcases List.mem_cons.mp ha with rfl | ha
        · exact back0 _ (back _ hLn)
        · exact back0 _ (hW a ha))) (fun q hq => .inr (by
        cases e : s.gens[q]? with
        | none => rfl
        | some o => have := e₁.gens q o (fun z => nomatch z) e; rw [hG q hq] at this; cases this))
    refine hfin _ s₅ H.objs.size m' ext5 (back0 _ (back _ hLn)) hm' (.lst (n := n') (vs := ws) (fun hm => ?_) ho ?_)
    · rcases List.mem_cons.mp hm with e | hm
      · exact hDL e
      · obtain ⟨o, e⟩ := F.live _ hm
        rw [back0 _ (back _ hD)] at e; cases e
    · simpa using hr.sub fun a ha => List.mem_cons_of_mem _ ha
  exact compStart_any (g := ⟨target, iter, ifs, 0⟩) rfl rfl loop (wk.self 0 _ _ _ hJ₄ loop)
end
end Mine
end
section
open PySem PySem.W PyProof.Rows PySem.Calls
namespace Mine
section
variable {C : Cx} {vals : List VV} {X : List Addr}

noncomputable def emitB (elt : Expr) : Value → Addr → Env → Sem Unit := fun _ D env => do let _ ← call (.builtin "list.append") [.ref D, ← eval elt env]
noncomputable def innerB (e : Expr) (iter : Expr) : Value → Addr → Env → Sem Unit := fun _ D env => do
  let x ← eval iter env
  standAt iter.pos
  let x ← foldedSetIterable iter env x
  let _ ← runOwn (.compStart e 1 (← holding [x] (pyIter x)) (.ref D) env) env

theorem CBody.inner {D : Addr} {v1 : List VV} {elt : Expr} {g1 : Comprehension} {t2 i2 : Expr} {ifs2 : List Expr} {scope : Scope} {pos : Pos} {p : PV} {xs : List PV} (g : PV → List PV)
    (src : Ev C v1 i2 p) (it : IterOK C p xs)
    (turn : ∀ x ∈ xs, ∃ v2 b outs, Asg C [C.env.locals] t2 x v1 v2 ∧ CT C v2 ifs2 b ∧ (b = true → CBody C D v2 (emitB elt .none D C.env) outs) ∧ g x = (if b then outs else []) ∧ (∀ (i : Nat) (y : VV), v1[i]? = some y → y = .u ∨ v2[i]? = some y))
    (hs : ∀ x, foldedSetIterable i2 C.env x = pure x := by intro _; rfl) (itv : Value) :
    CBody C D v1 (innerB (.ListComp elt [g1, ⟨t2, i2, ifs2, 0⟩] scope pos) i2 itv D C.env) (xs.flatMap g) := .mk fun X s E Q os c hz h => by
  unfold innerB
  refine wpAny_bind (src.go X s E _ c.fs.fv fun v s₁ e₁ r₁ => wpAny_bind (wpAny_standAt (wpAny_bind (wpAny_of_eq (hs v) (wpAny_bind (wpAny_holding (it.go X s₁ E _ v (c.fs.fv.kp.ext e₁.k) (c.fs.fv.live.ext e₁.k) r₁ fun itv s₂ W Gt e₂ hW hlW hG hwk => ?_)))))))
  obtain ⟨J, wk, hJ⟩ := hwk [] (fun a ha => nomatch ha)
  have c₁ := c.ext e₁
  have hWn : ∀ a ∈ W, a ∉ X ∧ a ∉ C.fix ∧ C.hT.get? a = none := fun a ha => by
    refine ⟨fun hm => ?_, fun hm => ?_, ?_⟩
    · obtain ⟨o, e⟩ := c₁.fs.fv.live a hm; rw [hW a ha] at e; cases e
    · obtain ⟨o, e⟩ := c₁.fs.fxl a hm; rw [hW a ha] at e; cases e
    · cases q : C.hT.get? a with
      | none => rfl
      | some o => have := c₁.fs.fv.kp a o q; rw [hW a ha] at this; cases this
  have c₂ : CS C D (W ++ X) v1 os s₂ := by
    obtain ⟨ws, n, a, b⟩ := c₁.obj
    refine ⟨c₁.fs.wider hW e₂.k hlW, List.mem_append_right _ c.dX, c.dL, c.dF, c.dT, ws, n, e₂.k _ _ a, ?_⟩
    have := b.wid (W := W) (Y := []) hW e₂.k (fun a ha => nomatch ha)
    simpa using this
  have hLX := c.fs.sub _ c.fs.loc
  have loop : codeAny C.M C.A (.compLoop (.ListComp elt [g1, ⟨t2, i2, ifs2, 0⟩] scope pos) 1 itv (.ref D) C.env) (fun r s' => match r with | .ok f => wpAny C.M C.A (pure () : Sem Unit) Q E s' | .error e => cameBackBy C.M C.A C.env E e s') s₂ := by
    refine comp_loop (emitB elt .none D C.env) rfl wk hJ c₂ c.dX hLX hWn g hz turn fun s₃ k₃ c₃ => wpAny_pure (h s₃ ?_ c₃)
    refine KB.new (KB.wide (e₁.trans e₂)) k₃ (fun a ha => ?_) (fun q hq => .inr (by
        cases e : s.gens[q]? with
        | none => rfl
        | some o => have := e₁.gens q o (fun z => nomatch z) e; rw [hG q hq] at this; cases this))
    rcases List.mem_cons.mp ha with rfl | ha
    · exact .inl List.mem_cons_self
    · rcases List.mem_cons.mp ha with rfl | ha
      · exact .inl (List.mem_cons_of_mem _ List.mem_cons_self)
      · refine .inr ?_
        cases e : s.heap.get? a with
        | none => rfl
        | some o => have := e₁.k a o e; rw [hW a ha] at this; cases this
  refine wpAny_bind (wpAny_runOwn (compStart_any (g := ⟨t2, i2, ifs2, 0⟩) rfl rfl ?_ (wk.self 0 _ _ _ hJ ?_)))
  · exact loop
  · exact loop

/-- the comprehension's end: its value -/
theorem comp_val {s : Shared} {E : Value → Shared → Prop} {Q : Value → Shared → Prop} {l : List PV} (F : FV C X vals s.heap) (h : ∀ v s', Ext s s' → Rp X s'.heap v (.lst l) → Q v s') :
    ∀ v s' Lc m, Ext s s' → s.heap.get? Lc = none → s'.heap.Ns Lc m → Rp (Lc :: X) s'.heap v (.lst l) → compPost C.M C.A E none Q v Lc (.ok .next) s' := fun v s' Lc m e hL hn r => by
  refine ⟨m, hn, fun h' hsb => h v _ ?_ ((r.keep fun b o hb e' => (hsb.2 b (fun q => hb (q ▸ List.mem_cons_self))).trans e').sub fun a ha => List.mem_cons_of_mem _ ha)⟩
  exact ⟨fun a o ha e' => (hsb.2 a (fun q => by rw [q, hL] at e'; cases e')).trans (e.k a o e'), fun i x hi q => e.gens i x hi q, e.bare, e.os⟩


structure CompOK (C : Cx) (vals : List VV) (elt : Expr) (gens : List Comprehension) (scope : Scope) (pos : Pos) (iter : Expr) (l : List PV) : Prop where
  go : ∀ (X : List Addr) (s : Shared) (E : Value → Shared → Prop) (Q : Value → Shared → Prop) (use : Option (Value → Sem Unit)) (pos' : Pos), FV C X vals s.heap →
    (∀ v s' Lc m, Ext s s' → s.heap.get? Lc = Option.none → s'.heap.Ns Lc m → Rp (Lc :: X) s'.heap v (.lst l) → compPost C.M C.A E use Q v Lc (.ok .next) s') →
    wpAny C.M C.A (comprehension (.ListComp elt gens scope pos) scope C.env pos' (newList []) false (eval iter C.env) use) Q E s

theorem filterMap_flat (f : PV → Option PV) (xs : List PV) : xs.filterMap f = xs.flatMap fun x => (f x).toList := by
  induction xs with
  | nil => rfl
  | cons x xs ih =>
    rw [List.filterMap_cons, List.flatMap_cons]
    cases hf : f x with
    | none => simpa using ih
    | some d => simpa using ih

theorem CompOK.one {elt target iter : Expr} {ifs : List Expr} {scope : Scope} {pos : Pos} {locs frees : List Str} {fds : List PV} {p : PV} {xs : List PV} (f : PV → Option PV)
    (S : CScope C vals scope locs frees fds) (src : Ev C vals iter p) (it : IterOK C p xs) (hz : xs.length ≤ sizeLine)
    (turn : ∀ (cl : List (Str × Addr)) (Lc : Addr), ∀ x ∈ xs, ∃ v1 b, Asg (C.comp scope cl Lc (locs ++ frees)) [Lc] target x (baseV locs fds) v1 ∧ CT (C.comp scope cl Lc (locs ++ frees)) v1 ifs b ∧
      (b = true → ∃ d, f x = some d ∧ Ev (C.comp scope cl Lc (locs ++ frees)) v1 elt d) ∧ (b = false → f x = Option.none) ∧ (∀ (i : Nat) (y : VV), (baseV locs fds)[i]? = some y → y = .u ∨ v1[i]? = some y))
    (hs : ∀ x, foldedSetIterable iter C.env x = pure x := by intro _; rfl) : CompOK C vals elt [⟨target, iter, ifs, 0⟩] scope pos iter (xs.filterMap f) := .mk fun X s E Q use pos' F h => by
  rw [filterMap_flat] at h
  refine comp_top use S F src it (fun x => (f x).toList) ?_ (emitB elt) (fun _ _ _ => rfl) ?_ h hs
  · rw [← filterMap_flat]; exact Nat.le_trans (List.length_filterMap_le _ _) hz
  · intro cl Lc D itv x hx
    obtain ⟨v1, b, a1, a2, a3, a4, a5⟩ := turn cl Lc x hx
    cases b with
    | false => exact ⟨v1, false, [], a1, a2, (fun e => nomatch e), by rw [a4 rfl]; rfl, a5⟩
    | true =>
      obtain ⟨d, hd, ev⟩ := a3 rfl
      exact ⟨v1, true, [d], a1, a2, fun _ => CBody.emit ev, by rw [hd]; rfl, a5⟩

theorem turn2_eq (elt t1 i1 t2 i2 : Expr) (ifs2 : List Expr) (scope : Scope) (pos : Pos) (itv : Value) (D : Addr) (env : Env) :
    compTurn (.ListComp elt [⟨t1, i1, [], 0⟩, ⟨t2, i2, ifs2, 0⟩] scope pos) 0 itv (.ref D) env = (do
      standAt i1.pos
      match ← pyNext itv with
      | none => pure (.done .next)
      | some v =>
        letOwnedTupleGo t1 itv v
        assign t1 env v
        let mut ok := true
        for c in ([] : List Expr) do
          if ok then ok ← isTrue c env (eval c env)
        if ok then innerB (.ListComp elt [⟨t1, i1, [], 0⟩, ⟨t2, i2, ifs2, 0⟩] scope pos) i2 itv D env
        again (.compLoop (.ListComp elt [⟨t1, i1, [], 0⟩, ⟨t2, i2, ifs2, 0⟩] scope pos) 0 itv (.ref D) env)) := by
  unfold innerB
  simp only [bind_assoc, pure_bind]
  rfl
theorem CompOK.two {elt t1 i1 t2 i2 : Expr} {ifs2 : List Expr} {scope : Scope} {pos : Pos} {locs frees : List Str} {fds : List PV} {p : PV} {xs : List PV} (g : PV → List PV)
    (S : CScope C vals scope locs frees fds) (src : Ev C vals i1 p) (it : IterOK C p xs) (hz : (xs.flatMap g).length ≤ sizeLine)
    (turn : ∀ (cl : List (Str × Addr)) (Lc : Addr), ∀ x ∈ xs, ∃ v1 p2 xs2 f2, Asg (C.comp scope cl Lc (locs ++ frees)) [Lc] t1 x (baseV locs fds) v1 ∧ (∀ (i : Nat) (y : VV), (baseV locs fds)[i]? = some y → y = .u ∨ v1[i]? = some y) ∧
      Ev (C.comp scope cl Lc (locs ++ frees)) v1 i2 p2 ∧ IterOK (C.comp scope cl Lc (locs ++ frees)) p2 xs2 ∧ g x = xs2.filterMap f2 ∧
      ∀ y ∈ xs2, ∃ v2 b, Asg (C.comp scope cl Lc (locs ++ frees)) [Lc] t2 y v1 v2 ∧ CT (C.comp scope cl Lc (locs ++ frees)) v2 ifs2 b ∧ (b = true → ∃ d, f2 y = some d ∧ Ev (C.comp scope cl Lc (locs ++ frees)) v2 elt d) ∧ (b = false → f2 y = Option.none) ∧ (∀ (i : Nat) (z : VV), v1[i]? = some z → z = .u ∨ v2[i]? = some z))
    (hs : ∀ x, foldedSetIterable i1 C.env x = pure x := by intro _; rfl) (hs2 : ∀ (env : Env) x, foldedSetIterable i2 env x = pure x := by intro _ _; rfl) :
    CompOK C vals elt [⟨t1, i1, [], 0⟩, ⟨t2, i2, ifs2, 0⟩] scope pos i1 (xs.flatMap g) := .mk fun X s E Q use pos' F h => by
  refine comp_top use S F src it g hz (innerB (.ListComp elt [⟨t1, i1, [], 0⟩, ⟨t2, i2, ifs2, 0⟩] scope pos) i2) (fun _ _ _ => turn2_eq ..) ?_ h hs
  intro cl Lc D itv x hx
  obtain ⟨v1, p2, xs2, f2, a1, a2, a3, a4, a5, a6⟩ := turn cl Lc x hx
  refine ⟨v1, true, xs2.flatMap fun y => (f2 y).toList, a1, .nil, fun _ => CBody.inner (fun y => (f2 y).toList) a3 a4 ?_ (hs2 _) itv, by rw [a5, filterMap_flat]; rfl, a2⟩
  intro y hy
  obtain ⟨v2, b, b1, b2, b3, b4, b5⟩ := a6 y hy
  cases b with
  | false => exact ⟨v2, false, [], b1, b2, (fun e => nomatch e), by rw [b4 rfl]; rfl, b5⟩
  | true =>
    obtain ⟨d, hd, ev⟩ := b3 rfl
    exact ⟨v2, true, [d], b1, b2, fun _ => CBody.emit ev, by rw [hd]; rfl, b5⟩

theorem Ev.ofComp {elt target iter : Expr} {ifs : List Expr} {rest : List Comprehension} {scope : Scope} {pos : Pos} {l : List PV} (x : CompOK C vals elt (⟨target, iter, ifs, 0⟩ :: rest) scope pos iter l) : Ev C vals (.ListComp elt (⟨target, iter, ifs, 0⟩ :: rest) scope pos) (.lst l) := .mk fun X s E Q F h => by
  rw [eval_ListComp]
  exact x.go X s E Q Option.none _ F (comp_val F h)

theorem Ex1.asgComp {Mt : List Addr} {elt target iter : Expr} {ifs : List Expr} {rest : List Comprehension} {scope : Scope} {pos spos np : Pos} {l : List PV} {y : Str} (i : Nat) (x : CompOK C vals elt (⟨target, iter, ifs, 0⟩ :: rest) scope pos iter l) (hi : C.ns[i]? = some y)
    (hsw : swapsWith (.ListComp elt (⟨target, iter, ifs, 0⟩ :: rest) scope pos) (some (.Name y np)) spos.line C.env = pure true) (hw : C.env.kindOf y = some .local ∨ C.fix = [] := by exact .inr rfl) :
    Ex1 C Mt (.Assign [.Name y np] (.ListComp elt (⟨target, iter, ifs, 0⟩ :: rest) scope pos) spos) vals (.next (vals.set i (.p (.lst l)))) := .mk fun X s E Q F h => by
  rw [exec_Assign_Name_used _ _ _ _ hsw]
  refine wpAny_bind (wpAny_standAt (wpAny_bind ?_))
  show wpAny _ C.A (do let _ ← comprehension (.ListComp elt (⟨target, iter, ifs, 0⟩ :: rest) scope pos) scope C.env _ (newList []) false (eval iter C.env) (some (assign (.Name y np) C.env))) _ _ s
  refine wpAny_bind (wpAny_mono (x.go X s E (fun _ s' => Q .next s') (some (assign (.Name y np) C.env)) _ F.fv fun v s' Lc m e hL hn r => ?_) (fun _ s' hq => wpAny_pure (wpAny_pure hq)) fun _ _ e => e)
  show wpAny _ C.A (assign (.Name y np) C.env v) _ _ _
  have hLv : ∃ o, s'.heap.get? Lc = some o := let ⟨o, _, _, q, _⟩ := hn; ⟨o, q⟩
  have F' : FS C Mt ([Lc] ++ X) vals s'.heap := F.wider (W := [Lc]) (fun a ha => by rw [List.mem_singleton.mp ha]; exact hL) e.k (fun a ha => by rw [List.mem_singleton.mp ha]; exact hLv)
  have hLM : Lc ∉ Mt := fun hm => by obtain ⟨o, q⟩ := F.fv.live Lc (F.sub Lc hm); rw [hL] at q; cases q
  have hLX : Lc ∉ X := fun hm => by obtain ⟨o, q⟩ := F.fv.live Lc hm; rw [hL] at q; cases q
  have hLF : Lc ∉ C.fix := fun hm => by obtain ⟨o, q⟩ := F.fxl Lc hm; rw [hL] at q; cases q
  have hLT : C.hT.get? Lc = Option.none := by
    cases q : C.hT.get? Lc with
    | none => rfl
    | some o => have := F.fv.kp Lc o q; rw [hL] at this; cases this
  refine wpAny_assign_Name (F'.store hi (.p r) (fun _ _ e => nomatch e) hw fun s₂ k₂ F₂ => ⟨m, hn.at' fun o q => k₂.keep Lc o hLM q, fun h' hsb => ?_⟩)
  have k₃ : KB [Lc] [] s₂ { s₂ with heap := h' } := ⟨fun b o hb q => (hsb.2 b (fun z => hb (List.mem_singleton.mpr z))).trans q, fun _ _ _ q => q, id, rfl⟩
  have F₃ : FS C Mt X (vals.set i (.p (.lst l))) h' := F₂.leave (W := [Lc]) k₃ (fun a ha => by rw [List.mem_singleton.mp ha]; exact ⟨hLX, hLM, hLF, hLT⟩) F.sub
  refine h .next { s₂ with heap := h' } ?_ ⟨rfl, F₃⟩
  exact KB.new ((KB.wide e).trans k₂) k₃ (fun a ha => .inr (by rw [List.mem_singleton.mp ha]; exact hL)) fun g hg => nomatch hg
end
end Mine
end
section
open PySem PySem.W PyProof.Rows PySem.Calls
namespace Mine

theorem RpL.ints {X : List Addr} {h : Heap} : ∀ {vs : List Value} {ns : List Int}, RpL X h vs (ns.map .int) → IntsAre vs ns
  | [], [], _ => .nil
  | v :: vs, n :: ns, r => by
    cases r with | cons r1 r2 =>
    cases r1
    exact .cons _ _ (RpL.ints r2)
  | [], _ :: _, r => by cases r
  | _ :: _, [], r => by cases r
theorem RpL.strs {X : List Addr} {h : Heap} : ∀ {vs : List Value} {ss : List Str}, RpL X h vs (ss.map .str) → ∃ l : List (Str × Tok), vs = strValues l ∧ l.map (·.1) = ss
  | [], [], _ => ⟨[], rfl, rfl⟩
  | v :: vs, n :: ns, r => by
    cases r with | cons r1 r2 =>
    obtain ⟨l, e1, e2⟩ := RpL.strs r2
    cases r1 with | str x t => exact ⟨(n, t) :: l, by rw [e1]; rfl, by rw [← e2]; rfl⟩
  | [], _ :: _, r => by cases r
  | _ :: _, [], r => by cases r
theorem RpL.ofStrs {X : List Addr} {h : Heap} : ∀ (l : List (Str × Tok)), RpL X h (strValues l) ((l.map (·.1)).map .str)
  | [] => .nil
  | (x, t) :: l => .cons (.str x t) (RpL.ofStrs l)

section
variable {C : Cx} {vals : List VV}

theorem CallOK.lenL {l : List PV} (hz : l.length < 2 ^ 60) : CallOK C (.builtin "len") [.lst l] (.int l.length) := .mk fun X s E Q vs hK hL r h => by
  cases r with | cons r1 r2 =>
  cases r2
  cases r1 with | lst ha ho r =>
  rename_i a ws n
  refine PyProof.Rows.len_list (items := ws.toArray) ⟨_, ho, rfl, _, rfl⟩ (by simp only [List.size_toArray, r.length]; omega) ?_
  have e : ((ws.toArray.size : Nat) : Int) = l.length := by simp [r.length]
  rw [e]
  exact h _ _ (Ext.of fun _ _ e => e) (.int _ _)
theorem CallOK.lenS {x : Str} (hz : x.length < 2 ^ 60) : CallOK C (.builtin "len") [.str x] (.int x.length) := .mk fun X s E Q vs hK hL r h => by
  cases r with | cons r1 r2 =>
  cases r2
  cases r1
  exact PyProof.Rows.len_str (by omega) (h _ _ (Ext.of fun _ _ e => e) (.int _ _))
theorem CallOK.range1 {n : Int} : CallOK C (.type "range") [.int n] (.rng 0 n) := .mk fun X s E Q vs hK hL r h => by
  cases r with | cons r1 r2 =>
  cases r2
  cases r1
  exact call_range_1 (h _ _ (Ext.of (KB.k Ext.push)) (.rng (hL.new get_size) (Heap.get?_push_size _ rfl)))
theorem CallOK.range2 {a b : Int} : CallOK C (.type "range") [.int a, .int b] (.rng a b) := .mk fun X s E Q vs hK hL r h => by
  cases r with | cons r1 r2 =>
  cases r2 with | cons r2 r3 =>
  cases r3
  cases r1
  cases r2
  exact call_range_2 (h _ _ (Ext.of (KB.k Ext.push)) (.rng (hL.new get_size) (Heap.get?_push_size _ rfl)))
theorem CallOK.sum {ns : List Int} (hh : C.A.handled = none) : CallOK C (.builtin "sum") [.lst (ns.map .int)] (.int ns.sum) := .mk fun X s E Q vs hK hL r h => by
  cases r with | cons r1 r2 =>
  cases r2
  cases r1 with | lst ha ho r =>
  rename_i a ws n
  have hi := r.ints
  obtain ⟨xs, e⟩ := hi.allInts.items
  have hns : ns = xs.toList.map (·.1) := by rw [← hi.numsOf, ← nums_intItems, ← e]
  refine sum_intListG hh (l := a) (xs := xs) (by rw [← e]; exact ⟨_, ho, rfl, _, rfl⟩) fun h' tk t' hk => ?_
  have e2 : preSum (numAt xs) xs.size = ns.sum := by
    rw [preSum_eq, List.take_of_length_le (by simp), hns]
  rw [e2]
  exact h _ _ (Ext.of hk) (.int _ _)
/-- the greatest -/
theorem CallOK.max {ns : List Int} {m : Int} (hh : C.A.handled = none) (hm : m ∈ ns) (hg : ∀ a ∈ ns, a ≤ m) : CallOK C (.builtin "max") [.lst (ns.map .int)] (.int m) := .mk fun X s E Q vs hK hL r h => by
  cases r with | cons r1 r2 =>
  cases r2
  cases r1 with | lst ha ho r =>
  rename_i a ws n
  have hi := r.ints
  obtain ⟨xs, e⟩ := hi.allInts.items
  have hns : ns = xs.toList.map (·.1) := by rw [← hi.numsOf, ← nums_intItems, ← e]
  have hsz : 0 < xs.size := by
    have h3 : 0 < ns.length := List.length_pos_of_mem hm
    rw [hns, List.length_map, Array.length_toList] at h3; exact h3
  refine max_intList hh (l := a) (xs := xs) (by rw [← e]; exact ⟨_, ho, rfl, _, rfl⟩) hsz fun v h' tk hv hk => ?_
  obtain ⟨t, rfl⟩ := intItems_at hv
  obtain ⟨h1, h2⟩ := argBest_gt (numAt xs) (xs.size - 1)
  have hmem : numAt xs (argBest (fun i j => decide (numAt xs i > numAt xs j)) (xs.size - 1)) ∈ ns := by
    rw [hns, numAt_eq]; exact getD_mem (by rw [List.length_map, Array.length_toList]; omega)
  have hge : ∀ a ∈ ns, a ≤ numAt xs (argBest (fun i j => decide (numAt xs i > numAt xs j)) (xs.size - 1)) := fun a ha => by
    rw [hns] at ha
    obtain ⟨j, hj, rfl⟩ := mem_getD ha
    rw [List.length_map, Array.length_toList] at hj
    rw [← numAt_eq]; exact h2 j (by omega)
  have e3 : numAt xs (argBest (fun i j => decide (numAt xs i > numAt xs j)) (xs.size - 1)) = m := Int.le_antisymm (hg _ hmem) (hge _ hm)
  rw [e3]
  exact h _ _ (Ext.of hk) (.int _ _)
theorem CallOK.index {ns : List Int} {k : Int} (hk : k ∈ ns) (hz : ns.length < 2 ^ 60) : CallOK C (.builtin "list.index") [.lst (ns.map .int), .int k] (.int (ns.idxOf k : Nat)) := .mk fun X s E Q vs hK hL r h => by
  cases r with | cons r1 r2 =>
  cases r2 with | cons r2 r3 =>
  cases r3
  cases r2
  cases r1 with | lst ha ho r =>
  rename_i t a ws n
  have hi := r.ints
  have hlen := hi.length
  have hj : ns.idxOf k < ns.length := List.idxOf_lt_length_iff.mpr hk
  refine call_meets PySem.F.slot_list_index ⟨_, ho, rfl⟩ PySem.F.entry_list_index (PySem.F.args_list_index_2 _ _)
    (PySem.SeqAt.list_indexAt a ws.toArray n none #[] (.int k t) (isInt k) (ns.idxOf k) (by simpa [hlen] using hj) (by omega) ?_ ?_) ⟨ho, fun y hy => (eq_isInt k t hi y (by simpa using hy)).at _ _, h _ _ (Ext.of fun _ _ e => e) (.int _ _)⟩
  · show isInt k ws[ns.idxOf k] = true
    rw [isInt_at k hi _ (by omega) hj]
    simpa using List.getElem_idxOf hj
  · intro j hjs hlt
    show isInt k ws[j] = false
    rw [isInt_at k hi j (by simpa using hjs) (by omega)]
    exact ne_of_lt_idxOf hlt _
theorem CallOK.count {ns : List Int} {k : Int} : CallOK C (.builtin "list.count") [.lst (ns.map .int), .int k] (.int (ns.count k : Nat)) := .mk fun X s E Q vs hK hL r h => by
  cases r with | cons r1 r2 =>
  cases r2 with | cons r2 r3 =>
  cases r3
  cases r2
  cases r1 with | lst ha ho r =>
  exact count_list_ints ⟨_, ho, rfl, _, rfl⟩ r.ints (h _ _ (Ext.of fun _ _ e => e) (.int _ _))
theorem CallOK.lstrip {x y : Str} (hz : x.length ≤ sizeLine) : CallOK C (.builtin "str.lstrip") [.str x, .str y] (.str (Txt.lstripChars x y)) := .mk fun X s E Q vs hK hL r h => by
  cases r with | cons r1 r2 =>
  cases r2 with | cons r2 r3 =>
  cases r3
  cases r2
  cases r1
  exact SC.lstripChars (fun t k => h _ _ (Ext.of fun _ _ e => e) (.str _ _)) hz
theorem CallOK.join {x : Str} {ss : List Str} (hok : JoinOk x ss = true) : CallOK C (.builtin "str.join") [.str x, .lst (ss.map .str)] (.str (Txt.join x ss)) := .mk fun X s E Q vs hK hL r h => by
  cases r with | cons r1 r2 =>
  cases r2 with | cons r2 r3 =>
  cases r3
  cases r1
  cases r2 with | lst ha ho r =>
  obtain ⟨l, e1, e2⟩ := r.strs
  subst e1
  exact SC.join ⟨_, ho, rfl, _, rfl⟩ e2 hok fun t k => h _ _ (Ext.of fun _ _ e => e) (.str _ _)
theorem Op2.ninS {x y : Str} : Op2 C (compareOp .NotIn) (.str y) (.str x) (.bool (!Txt.contains x y)) := .mk fun X s E Q v w hK hL ra rb h => by
  cases ra; cases rb
  exact SB.notContains (h _ _ KB.refl (.bool _))
end
end Mine
end
section
open PySem PySem.W PyProof.Rows PySem.Calls
namespace Mine

noncomputable abbrev Cx.at (C : Cx) (B : Around) : Cx := { C with A := B }
theorem FV.at {C : Cx} {X : List Addr} {vals : List VV} {h : Heap} (F : FV C X vals h) (B : Around) : FV (C.at B) X vals h := ⟨F.kp, F.live, F.kind, F.dbg, F.var⟩
theorem FS.at {C : Cx} {Mt X : List Addr} {vals : List VV} {h : Heap} (F : FS C Mt X vals h) (B : Around) : FS (C.at B) Mt X vals h :=
  ⟨F.fv.at B, F.sub, F.top, F.loc, F.cel, F.fxl, F.fxm, F.nsx, F.cell, F.apart, F.kinds, F.nd, F.om⟩

noncomputable abbrev noE : Value → Shared → Prop := fun _ _ => False

section
variable {M : Model} {A : Around} {R : GenEnd} {Y : Protocol} {n : Nat} {s₀ : Shared} {c : Code} {fs : List Frame} {s : Shared} {env : Env}
  {K : Flow → Sem Fin} {H : Value → Sem Fin} {gd : Bool → Bool} {lv : List Value → List Value}

theorem seg_stmt {m : Sem Flow} (h : wpAny M (A.over c fs) m (fun f s' => Seg M A R Y n s₀ c (K f) fs s') noE s) : Seg M A R Y n s₀ c (m.wrap K H gd lv) fs s :=
  seg_wrap (wpAny_mono h (fun _ _ x => x) fun _ _ x => x.elim)
theorem seg_If {t : Expr} {body orelse : List Stmt} {pos : Pos}
    (h : wpAny M (A.over c fs) (isTrue t env (eval t env)) (fun b s' => Seg M A R Y n s₀ c ((execs (if b then body else orelse) env).wrap K H gd lv) fs s') noE s) :
    Seg M A R Y n s₀ c ((exec (.If t body orelse pos) env).wrap K H gd lv) fs s := by
  rw [exec_If]
  show Seg M A R Y n s₀ c (.at pos fun _ => ((isTrue t env (eval t env)) >>= fun b => if b = true then execs body env else execs orelse env).wrap K H gd lv) fs s
  refine seg_at ?_
  rw [Sem.bind_eq_wrap', Sem.wrap_wrap]
  refine seg_wrap (wpAny_mono h (fun b s' x => ?_) fun _ _ x => x.elim)
  cases b with
  | true => exact x
  | false => exact x
noncomputable abbrev forFr (K : Flow → Sem Fin) (H : Value → Sem Fin) (gd : Bool → Bool) (lv : List Value → List Value) (env : Env) (c : Code) (p : Pos) : Frame :=
  .ret (fun r => ((match r with | .ok f => (.pure f : Sem Flow) | .error e => .raise e).onRaise fun (x : Value) => do
        if (← field x 1) == Value.none then unsupported "frame.own-activation:exception-without-traceback"
        setFlight x env.frame).wrap K H gd lv) none (gd false) (lv []) c p []
theorem seg_For {target iter : Expr} {body : List Stmt} {pos : Pos}
    (h : wpAny M (A.over c fs) (eval iter env) (fun v s₁ => wpAny M (A.over c fs) (pyIter v) (fun it s₂ =>
      ∀ p, Seg M A R Y n s₀ (.forLoop target it body [] env) (M.den (.forLoop target it body [] env)) (forFr K H gd lv env c p :: fs) s₂) noE s₁) noE s)
    (hs : ∀ x, foldedSetIterable iter env x = pure x := by intro _; rfl) :
    Seg M A R Y n s₀ c ((exec (.For target iter body [] pos) env).wrap K H gd lv) fs s := by
  rw [exec_For]
  refine seg_at ?_
  show Seg M A R Y n s₀ c ((eval iter env >>= fun v => foldedSetIterable iter env v >>= fun x => standAt iter.pos >>= fun _ => holding [x] (pyIter x) >>= fun it => runOwn (.forLoop target it body [] env) env).wrap K H gd lv) fs s
  rw [Sem.bind_eq_wrap', Sem.wrap_wrap]
  refine seg_wrap (wpAny_mono h (fun v s₁ h₁ => ?_) fun _ _ x => x.elim)
  rw [hs]
  show Seg M A R Y n s₀ c (.at iter.pos fun _ => (holding [v] (pyIter v) >>= fun it => runOwn (.forLoop target it body [] env) env).wrap K H gd lv) fs s₁
  refine seg_at ?_
  rw [Sem.bind_eq_wrap', Sem.wrap_wrap]
  refine seg_wrap (wpAny_holding (wpAny_mono h₁ (fun it s₂ h₂ => ?_) fun _ _ x => x.elim))
  exact seg_call h₂
end

section
variable {prog : Program} {w : World} {A : Around} {R : GenEnd} {Y : Protocol} {n : Nat} {s₀ : Shared} {fs : List Frame} {s : Shared} {env : Env}

noncomputable abbrev loopK (target : Expr) (it : Value) (body : List Stmt) (env : Env) : Flow → Sem Fin := fun f => match f with
  | .next | .cont => .pure (.again (.forLoop target it body [] env))
  | .brk => .pure (.done .next)
  | .ret v => .pure (.done (.ret v))
noncomputable abbrev loopH (env : Env) : Value → Sem Fin := fun e => (do noteFrame e env; theTreesLotGoes e : Sem Unit).bind fun _ => .raise e
theorem seg_forLoop {target : Expr} {it : Value} {body : List Stmt}
    (h : wpAny (model prog w) (A.over (.forLoop target it body [] env) fs) (pyNext it) (fun r s₁ => match r with
      | none => Seg (model prog w) A R Y n s₀ (.block [] env) ((model prog w).den (.block [] env)) fs s₁
      | some v => wpAny (model prog w) (A.over (.forLoop target it body [] env) fs) (letOwnedTupleGo target it v) (fun _ s₂ => wpAny (model prog w) (A.over (.forLoop target it body [] env) fs) (assign target env v) (fun _ s₃ =>
          Seg (model prog w) A R Y n s₀ (.forLoop target it body [] env) ((execs body env).wrap (loopK target it body env) (loopH env) id id) fs s₃) noE s₂) noE s₁) noE s) :
    Seg (model prog w) A R Y n s₀ (.forLoop target it body [] env) ((model prog w).den (.forLoop target it body [] env)) fs s := by
  show Seg _ A R Y n s₀ _ ((forTurn target it body [] env).onRaise (fun x => do noteFrame x env; theTreesLotGoes x)) fs s
  unfold forTurn
  rw [Sem.onRaise_eq_wrap]
  refine seg_at ?_
  show Seg _ A R Y n s₀ _ (((pyNext it).onRaise (fun _ => standAt { target.pos with line := 0 }) >>= _).wrap _ _ id id) fs s
  rw [Sem.bind_eq_wrap', Sem.wrap_wrap]
  refine seg_wrap (wpAny_onRaise (wpAny_mono h (fun r s₁ h₁ => ?_) fun _ _ x => x.elim))
  cases r with
  | none => exact seg_again rfl h₁
  | some v =>
    show Seg _ A R Y n s₀ _ ((letOwnedTupleGo target it v >>= fun _ => assign target env v >>= fun _ => execs body env >>= _).wrap _ _ id id) fs s₁
    rw [Sem.bind_eq_wrap', Sem.wrap_wrap]
    refine seg_wrap (wpAny_mono h₁ (fun _ s₂ h₂ => ?_) fun _ _ x => x.elim)
    rw [Sem.bind_eq_wrap', Sem.wrap_wrap]
    refine seg_wrap (wpAny_mono h₂ (fun _ s₃ h₃ => ?_) fun _ _ x => x.elim)
    rw [Sem.bind_eq_wrap', Sem.wrap_wrap]
    have e := Sem.wrap_congr (execs body env) (K := fun a => Sem.wrap Sem.pure (loopH env) id id (match a with
          | Flow.next => again (Code.forLoop target it body [] env)
          | Flow.cont => again (Code.forLoop target it body [] env)
          | Flow.brk => pure (Fin.done Flow.next)
          | Flow.ret v => pure (Fin.done (Flow.ret v)))) (K' := loopK target it body env) (H := loopH env) (H' := loopH env) id id (fun f => by cases f <;> rfl) (fun e => rfl)
    rw [← e] at h₃
    exact h₃
theorem seg_block_nil {k : Result → Sem Fin} {hh g l c₁ p₁ kp} (h : Seg (model prog w) A R Y n s₀ c₁ (k (.ok .next)) fs s) :
    Seg (model prog w) A R Y n s₀ (.block [] env) ((model prog w).den (.block [] env)) (.ret k hh g l c₁ p₁ kp :: fs) s :=
  seg_leaf (.ok .next) h
end
end Mine
end
section
open PySem PySem.W PyProof.Rows PySem.Calls
namespace Mine

/-- what the escaping walk yields -/
noncomputable def escGo : Nat → Bool → List Nat → List PV
  | k, true, [] => [.tup [.int ((k : Int) - 1), .str ⟨#[92]⟩]]
  | _, false, [] => []
  | k, true, c :: cs => .tup [.int k, .str ⟨#[92, c]⟩] :: escGo (k + 1) false cs
  | k, false, c :: cs => if c == 92 then escGo (k + 1) true cs else .tup [.int k, .str ⟨#[c]⟩] :: escGo (k + 1) false cs

/-- it ends outside an escape -/
noncomputable def escOK : Bool → List Nat → Bool
  | b, [] => !b
  | true, _ :: cs => escOK false cs
  | false, c :: cs => escOK (c == 92) cs

noncomputable def genY (hT : Heap) (W X0 : List Addr) (xs : List PV) : Protocol := fun n s₀ v s kap => KB W [] s₀ s ∧ Live (W ++ X0) s.heap ∧ Kp hT s.heap ∧ (∃ d, xs[xs.length - (n + 1)]? = some d ∧ Rp (W ++ X0) s.heap v d) ∧
  ∀ s'', (∀ a o, (a ∉ W ++ X0 ∨ a ∈ W) → s.heap.get? a = some o → s''.heap.get? a = some o) → Kp hT s''.heap → Live (W ++ X0) s''.heap → kap (.send .none) s''
noncomputable def genR (W : List Addr) : GenEnd := fun n s₀ r s₁ => r = .ok (.ret .none) ∧ (n = 0 ∧ KB W [] s₀ s₁)

theorem FS.heap {C : Cx} {Mt X : List Addr} {vals : List VV} {h h' : Heap} (F : FS C Mt X vals h) (hk : ∀ a o, (a ∉ X ∨ a ∈ Mt) → h.get? a = some o → h'.get? a = some o) (hK : Kp C.hT h') (hl : Live X h') (hf : C.fix = []) : FS C Mt X vals h' := by
  have hcl : ∀ x c, C.env.cells.lookup x = some c → c ∈ Mt := fun x c hc => (F.cel x c hc).resolve_right fun q => by rw [hf] at q; cases q
  have rk : ∀ {w : Value} {d : PV}, Rp X h w d → Rp X h' w d := fun q => q.keep fun b o hb e => hk b o (.inl hb) e
  have rkl : ∀ {w : List Value} {d : List PV}, RpL X h w d → RpL X h' w d := fun q => q.keep fun b o hb e => hk b o (.inl hb) e
  have nsk : ∀ m, h.Ns C.env.locals m → h'.Ns C.env.locals m := fun m hn => hn.at' fun o e => hk _ o (.inr F.loc) e
  have ck : ∀ x c v, C.env.cells.lookup x = some c → h.IsCell c v → h'.IsCell c v := fun x c v hc ⟨o, e, d⟩ => ⟨o, hk c o (.inr (hcl x c hc)) e, d⟩
  refine ⟨⟨hK, hl, F.fv.kind, F.fv.dbg, fun j z y hj hv hu => ?_⟩, F.sub, F.top, F.loc, F.cel, (fun b hb => by rw [hf] at hb; cases hb), F.fxm, let ⟨m, hn⟩ := F.nsx; ⟨m, nsk m hn⟩, fun x c hc => let ⟨v, hv⟩ := F.cell x c hc; ⟨v, ck x c v hc hv⟩, F.apart, F.kinds, F.nd, F.om⟩
  obtain ⟨v, hx, r⟩ := F.fv.var j z y hj hv hu
  refine ⟨v, ?_, ?_⟩
  · rcases hx with ⟨q, m, hn, e⟩ | ⟨q, c, hc, e⟩
    · exact .inl ⟨q, m, nsk m hn, e⟩
    · exact .inr ⟨q, c, hc, ck z c _ hc e⟩
  · cases r with
    | p r => exact .p (rk r)
    | o ha e r => exact .o ha (hk _ _ (.inr (F.om j _ _ hv)) e) (rkl r)

/-- the walk's variables -/
noncomputable abbrev gV (x : Str) (pv : Int) (esc : Bool) (cv : VV) : List VV := [.p (.str x), .p (.int pv), .p (.bool esc), cv]

/-- the parts of the escaping walk's loop -/
structure GBody (C : Cx) (L : Addr) (x : Str) (t1 y1 t2 y2 : Expr) (st1 st2 : Stmt) (xp xc : Str) : Prop where
  t1 : ∀ B pv esc cv, Ts (C.at B) (gV x pv esc cv) t1 esc
  y1 : ∀ B pv esc c, Ev (C.at B) (gV x pv esc (.p (.str ⟨#[c]⟩))) y1 (.tup [.int pv, .str ⟨#[92, c]⟩])
  s1 : ∀ B pv esc cv, Ex1 (C.at B) [L] st1 (gV x pv esc cv) (.next (gV x pv false cv))
  t2 : ∀ B pv esc c, Ts (C.at B) (gV x pv esc (.p (.str ⟨#[c]⟩))) t2 (c == 92)
  s2 : ∀ B pv esc cv, Ex1 (C.at B) [L] st2 (gV x pv esc cv) (.next (gV x pv true cv))
  y2 : ∀ B pv esc c, Ev (C.at B) (gV x pv esc (.p (.str ⟨#[c]⟩))) y2 (.tup [.int pv, .str ⟨#[c]⟩])
  np : C.ns[1]? = some xp
  nc : C.ns[3]? = some xc
  fix : C.fix = []
  co : C.env.scope.isCoroutine = false
  act : interactive C.env = false

section
variable {C : Cx} {L : Addr} {x : Str} {t1 y1 t2 y2 : Expr} {st1 st2 : Stmt} {xp xc : Str} {A : Around} {X0 : List Addr} {itr e : Addr} {xs : List PV}

theorem genLoop {px pc pt yp1 yp2 q1 q2 q3 q4 : Pos} {kt : Nat} {St : Nat → Heap → Prop} {Mid : Nat → Addr → Heap → Prop} {fr : Frame}
    (G : GBody C L x t1 y1 t2 y2 st1 st2 xp xc)
    (hh : ∀ cd, (A.over cd [fr]).handled = none) (hfr : splitAtGen [fr] = none) (hfg : [fr].any Frame.guarded = false)
    (heL : e ≠ L) (hiL : itr ≠ L) (heT : C.hT.get? e = none) (hiT : C.hT.get? itr = none)
    (target : Expr) (htg : target = .Tuple [.Name xp px, .Name xc pc] kt pt)
    (body : List Stmt) (hbody : body = [.If t1 [.Expr (.Yield (some y1) yp1) q1, st1] [.If t2 [st2] [.Expr (.Yield (some y2) yp2) q2] q3] q4])
    (WT : WalksT C.prog C.w (A.over (.forLoop target (.ref e) body [] C.env) [fr]) e [e, itr] [e, itr] x.cps.size (fun i vals => ∃ t v, (∃ c u, x.cps[i]? = some c ∧ v = Value.str ⟨#[c]⟩ u) ∧ vals = #[.int i t, v]) St Mid)
    (hlive : ∀ i h, St i h → Live [e, itr] h)
    (heX : e ∉ X0) (hiX : itr ∉ X0)
    (exit : ∀ (pv : Int) (cv : VV) (s₀ s : Shared), FS C [L] ([L] ++ X0) (gV x pv false cv) s.heap → KB [itr, e, L] [] s₀ s →
      Seg C.M A (genR [itr, e, L]) (genY C.hT [itr, e, L] X0 xs) 0 s₀ (.block [] C.env) (C.M.den (.block [] C.env)) [fr] s) :
    ∀ (post : List Nat) (k : Nat) (esc : Bool) (pv : Int) (cv : VV) (s₀ s : Shared), x.cps.toList.drop k = post → k ≤ x.cps.size → escOK esc post = true → (∃ pre, xs = pre ++ escGo k esc post) →
      FS C [L] ([itr, e, L] ++ X0) (gV x pv esc cv) s.heap → St k s.heap → KB [itr, e, L] [] s₀ s →
      Seg C.M A (genR [itr, e, L]) (genY C.hT [itr, e, L] X0 xs) (escGo k esc post).length s₀ (.forLoop target (.ref e) body [] C.env) (C.M.den (.forLoop target (.ref e) body [] C.env)) [fr] s := by
  have frW : ∀ a, a ∈ [e, itr] → a ∈ [itr, e, L] ++ X0 ∧ a ∉ [L] ∧ a ∉ C.fix ∧ C.hT.get? a = none := fun a ha => by
    rw [G.fix]
    rcases List.mem_cons.mp ha with rfl | ha
    · exact ⟨by simp, by simpa using heL, by simp, heT⟩
    · rw [List.mem_singleton.mp ha]; exact ⟨by simp, by simpa using hiL, by simp, hiT⟩
  have keepY : ∀ {h h' : Heap}, (∀ a o, (a ∉ [itr, e, L] ++ X0 ∨ a ∈ [itr, e, L]) → h.get? a = some o → h'.get? a = some o) → ∀ {k : Nat}, St k h → St k h' := fun hk k hst =>
    WT.frame k _ _ hst fun b hb o e' => hk b o (.inr (by rcases List.mem_cons.mp hb with rfl | hb; · simp
                                                         · rw [List.mem_singleton.mp hb]; simp)) e'
  have keepF : ∀ {h h' : Heap} {vals : List VV}, FS C [L] ([itr, e, L] ++ X0) vals h → (∀ a o, (a ∉ [itr, e, L] ++ X0 ∨ a ∈ [itr, e, L]) → h.get? a = some o → h'.get? a = some o) → Kp C.hT h' → Live ([itr, e, L] ++ X0) h' → FS C [L] ([itr, e, L] ++ X0) vals h' := fun F hk hK hl =>
    F.heap (fun a o ha e' => hk a o (ha.imp id fun q => by rw [List.mem_singleton.mp q]; simp) e') hK hl G.fix
  have wm : ∀ {s s' : Shared}, KB [L] [] s s' → KB [itr, e, L] [] s s' := fun k => k.mono (fun a ha => by rw [List.mem_singleton.mp ha]; simp) fun _ h => h
  intro post
  induction post with
  | nil =>
    intro k esc pv cv s₀ s hd hk hok hpre F hst kb
    have hkx : k = x.cps.size := by
      have := congrArg List.length hd
      simp at this; omega
    subst hkx
    have hesc : esc = false := by cases esc with | false => rfl | true => cases hok
    subst hesc
    refine seg_forLoop (WT.done s _ _ hst fun h' tk hk' => ?_)
    have k1 : KB [itr, e] [] s { s with heap := h', toks := tk } := KB.of fun a o ha e' => hk' a o (fun q => ha (by simp at q ⊢; exact q.symm)) e'
    refine exit pv cv s₀ _ (FS.leave (W := [itr, e]) (X := [L] ++ X0) F k1 (fun a ha => ?_) (fun a ha => List.mem_append_left _ ha)) (kb.trans (k1.mono (fun a ha => by simp at ha ⊢; rcases ha with h | h <;> simp [h]) fun _ h => h))
    have := frW a (by simp at ha ⊢; exact ha.symm)
    refine ⟨fun q => ?_, this.2⟩
    rcases List.mem_append.mp q with q | q
    · exact this.2.1 q
    · simp at ha; rcases ha with rfl | rfl
      · exact hiX q
      · exact heX q
  | cons c cs ih =>
    intro k esc pv cv s₀ s hd hk hok hpre F hst kb
    have hkl : k < x.cps.size := by
      have := congrArg List.length hd
      simp at this; omega
    have hget : x.cps[k]? = some c := by
      have := congrArg (·[0]?) hd
      simpa using this
    have hd' : x.cps.toList.drop (k + 1) = cs := by
      have := congrArg (List.drop 1) hd
      simpa [Nat.add_comm] using this
    refine seg_forLoop (WT.item k s _ _ hkl hst fun T vs h' tk hP hge hT hm hk' => ?_)
    obtain ⟨t, v, ⟨c', u, hc', rfl⟩, rfl⟩ := hP
    rw [hget] at hc'; cases hc'
    subst htg
    have hTX : T ∉ [e, itr] := WT.apart _ _ _ hm
    refine WT.go _ _ _ k T _ _ _ hm fun h'' hst' hk'' => ?_
    have k1 : KB [e, itr] [] s { s with heap := h'', toks := tk } := KB.of fun a o ha e' => hk'' a o ha (hk' a o ha e')
    have F1 := F.kb k1 frW (hlive _ _ hst')
    have hT' : h''.IsTuple T #[.int k t, .str ⟨#[c]⟩ u] := by obtain ⟨o, ho, r⟩ := hT; exact ⟨o, hk'' _ _ hTX ho, r⟩
    have k1' : KB [itr, e, L] [] s { s with heap := h'', toks := tk } := k1.mono (fun a ha => by simp at ha ⊢; rcases ha with h | h <;> simp [h]) fun _ h => h
    refine FS.pair (C := C.at _) 1 3 (hh _) (F1.at _) hT' (.int _ _) (.str _ _) G.np G.nc (.inr G.fix) (.inr G.fix) fun s₂ k₂ F₂o => ?_
    have F₂ : FS C [L] ([itr, e, L] ++ X0) (gV x k esc (.p (.str ⟨#[c]⟩))) s₂.heap := F₂o.at C.A
    have hst₂ : St (k + 1) s₂.heap := WT.frame _ _ _ hst' fun b hb o e' => k₂.keep b o (fun q => (frW b hb).2.1 q) e'
    have kb₂ := (kb.trans k1').trans (wm k₂)
    subst hbody
    refine seg_execs_cons (seg_If ((G.t1 _ k esc _).go _ _ _ _ (F₂.fv.at _) fun s₃ e₃ => ?_))
    have F₃ := F₂.ext e₃.k
    have hst₃ : St (k + 1) s₃.heap := WT.frame _ _ _ hst₂ fun b hb o e' => e₃.k b o e'
    have kb₃ := kb₂.trans (KB.wide e₃)
    have idx : ∀ (d : PV) (r : List PV), (∃ pre, xs = pre ++ d :: r) → xs[xs.length - (r.length + 1)]? = some d := fun d r ⟨pre, hp⟩ => by
      rw [hp]; simp
    have sfx : ∀ (d : PV) (r : List PV), (∃ pre, xs = pre ++ d :: r) → ∃ pre, xs = pre ++ r := fun d r ⟨pre, hp⟩ => ⟨pre ++ [d], by rw [hp]; simp⟩
    cases esc with
    | true =>
      have hpre' : ∃ pre, xs = pre ++ .tup [.int k, .str ⟨#[92, c]⟩] :: escGo (k + 1) false cs := hpre
      refine seg_execs_cons (seg_Expr_Yield (n := (escGo (k + 1) false cs).length) hfr rfl hfg ((G.y1 _ k true c).go _ s₃ _ _ (F₃.fv.at _) fun v s₄ e₄ r₄ kap hkap => ?_) G.co G.act)
      have F₄ := F₃.ext e₄.k
      have hst₄ : St (k + 1) s₄.heap := WT.frame _ _ _ hst₃ fun b hb o e' => e₄.k b o e'
      refine ⟨kb₃.trans (KB.wide e₄), F₄.fv.live, F₄.fv.kp, ⟨_, idx _ _ hpre', r₄⟩, fun s₅ hk₅ hK₅ hl₅ => hkap .none s₅ ?_⟩
      have F₅ := keepF F₄ hk₅ hK₅ hl₅
      have hst₅ := keepY hk₅ hst₄
      refine seg_execs_cons (seg_stmt ((G.s1 _ k true _).go _ s₅ _ _ (F₅.at _) fun f s₆ k₆ o₆ => ?_))
      obtain ⟨rfl, F₆⟩ := o₆
      have F₆ : FS C [L] ([itr, e, L] ++ X0) (gV x k false (.p (.str ⟨#[c]⟩))) s₆.heap := F₆.at C.A
      have hst₆ : St (k + 1) s₆.heap := WT.frame _ _ _ hst₅ fun b hb o e' => k₆.keep b o (fun q => (frW b hb).2.1 q) e'
      exact seg_again rfl (ih (k + 1) false k _ s₅ s₆ hd' hkl hok (sfx _ _ hpre') F₆ hst₆ (wm k₆))
    | false =>
      refine seg_execs_cons (seg_If ((G.t2 _ k false c).go _ _ _ _ (F₃.fv.at _) fun s₄ e₄ => ?_))
      have F₄ := F₃.ext e₄.k
      have hst₄ : St (k + 1) s₄.heap := WT.frame _ _ _ hst₃ fun b hb o e' => e₄.k b o e'
      have kb₄ := kb₃.trans (KB.wide e₄)
      cases hc : c == 92 with
      | true =>
        have he : escGo k false (c :: cs) = escGo (k + 1) true cs := by simp only [escGo, hc, if_true]
        have hok' : escOK true cs = true := by simpa only [escOK, hc] using hok
        rw [he] at hpre ⊢
        refine seg_execs_cons (seg_stmt ((G.s2 _ k false _).go _ s₄ _ _ (F₄.at _) fun f s₅ k₅ o₅ => ?_))
        obtain ⟨rfl, F₅⟩ := o₅
        have F₅ : FS C [L] ([itr, e, L] ++ X0) (gV x k true (.p (.str ⟨#[c]⟩))) s₅.heap := F₅.at C.A
        have hst₅ : St (k + 1) s₅.heap := WT.frame _ _ _ hst₄ fun b hb o e' => k₅.keep b o (fun q => (frW b hb).2.1 q) e'
        exact seg_again rfl (ih (k + 1) true k _ s₀ s₅ hd' hkl hok' hpre F₅ hst₅ (kb₄.trans (wm k₅)))
      | false =>
        have he : escGo k false (c :: cs) = .tup [.int k, .str ⟨#[c]⟩] :: escGo (k + 1) false cs := by simp only [escGo, hc, Bool.false_eq_true, if_false]
        have hok' : escOK false cs = true := by simpa only [escOK, hc] using hok
        rw [he] at hpre ⊢
        refine seg_execs_cons (seg_Expr_Yield (n := (escGo (k + 1) false cs).length) hfr rfl hfg ((G.y2 _ k false c).go _ s₄ _ _ (F₄.fv.at _) fun v s₅ e₅ r₅ kap hkap => ?_) G.co G.act)
        have F₅ := F₄.ext e₅.k
        have hst₅ : St (k + 1) s₅.heap := WT.frame _ _ _ hst₄ fun b hb o e' => e₅.k b o e'
        refine ⟨kb₄.trans (KB.wide e₅), F₅.fv.live, F₅.fv.kp, ⟨_, idx _ _ hpre, r₅⟩, fun s₆ hk₆ hK₆ hl₆ => hkap .none s₆ ?_⟩
        have F₆ := keepF F₅ hk₆ hK₆ hl₆
        have hst₆ := keepY hk₆ hst₅
        exact seg_again rfl (ih (k + 1) false k _ s₆ s₆ hd' hkl hok' (sfx _ _ hpre) F₆ hst₆ KB.refl)
end
end Mine
end
section
open PySem PySem.W PyProof.Rows PySem.Calls
namespace Mine

section
variable {prog : Program} {w : World} {A : Around} {E : Value → Shared → Prop} {s : Shared}
theorem pyNext_genQ {a : Addr} {g n : Nat} {gs : GenState} {P : Nat → Shared → Shared → Prop} {Y : Protocol} {Q : Option Value → Shared → Prop} (hh : A.handled = none)
    (hl : s.heap.NoLimit) (hroom : A.depth < recursionLimit) (hg : s.heap.IsGen a g) (hgs : s.gens[g]? = some gs)
    (hgo : gs.Goes (model prog w) A.in1 (fun n s₀ r s₁ => r = .ok (.ret .none) ∧ P n s₀ s₁) Y n (.send .none) (s.setGen g .running))
    (hY : ∀ v s₁ gs', gs'.bare = true → Y (n - 1) (s.setGen g .running) v s₁ (fun r' s'' => match n with
        | 0 => False
        | m + 1 => gs'.Goes (model prog w) A.in1 (fun n s₀ r s₁ => r = .ok (.ret .none) ∧ P n s₀ s₁) Y m r' s'') → Q (some v) (s₁.setGen g gs'))
    (hP : ∀ s₁, P n (s.setGen g .running) s₁ → ∀ h', (∀ b o, s₁.heap.get? b = some o → h'.get? b = some o) → Q none { s₁.setGen g .finished with heap := h' }) :
    wpAny (model prog w) A (pyNext (.ref a)) Q E s := by
  unfold pyNext
  refine wpAny_bind (wpAny_attempt (wpAny_callSpecial?_slot (name := Str.ofString "__next__") hg.typeIs slot_gen_next
    (wpAny_call_entry slot_gen_next hg.typeIs entry_gen_next ?_ (args_gen_next _))))
  show wpAny _ A.in1 (Builtin.Generator.genWake (.ref a) (.send .none)) _ _ s
  unfold Builtin.Generator.genWake
  refine wpAny_bind (wpAny_holding (wpAny_genNumber hg (wpAny_bind (wpAny_genState hgs ?_))))
  cases gs with
  | running => exact hgo.elim
  | finished => exact hgo.elim
  | _ =>
    refine wpAny_bind (wpAny_roomToWake hl hroom ?_)
    show wpAny _ A.in1 (.resume g (.send .none) [] _) _ _ s
    refine wpAny_resumeQ hgs hgo (fun x s₁ hx => ?_) (fun v s₁ gs' hb hv => ?_)
    · obtain ⟨rfl, hp⟩ := hx
      show wpAny _ A.in1 (newExc (.type "StopIteration") [] >>= _) _ _ _
      refine wpAny_bind ?_
      simp only [newExc, newTuple]
      refine wpAny_bind (wpAny_newObj_type ?_ (by size_fits))
      refine wpAny_bind (m := firstArgMember _ _) (wpAny_of_eq (a := Value.none) (by first | rfl | (simp only [firstArgMember]; rfl)) ?_)
      refine wpAny_newObj_type ?_ (by size_fits)
      simp only [raiseNew]
      refine wpAny_bind (wpAny_bind (wpAny_handled ?_))
      first | rw [show A.in1.handled = none from hh] | rw [hh]
      refine wpAny_throw ?_
      refine wpAny_bind (wpAny_isInstance (T := "StopIteration") (b := true) ⟨_, Heap.get?_push_size _ rfl, rfl⟩ isSubtype_stop ?_)
      exact wpAny_pure (hP s₁ hp _ fun b o hb => Heap.get?_push_of_some _ (Heap.get?_push_of_some _ hb))
    · exact wpAny_pure ⟨v, rfl, wpAny_pure (hY v s₁ gs' hb hv)⟩
end

/-- one statement that makes no object -/
structure Ex1Z (C : Cx) (Mt : List Addr) (st : Stmt) (vals vals' : List VV) : Prop where
  go : ∀ (X : List Addr) (s : Shared) (E : Value → Shared → Prop) (Q : Flow → Shared → Prop), FS C Mt X vals s.heap →
    (∀ s', KB Mt [] s s' → FS C Mt X vals' s'.heap → s'.heap.objs.size = s.heap.objs.size → Q .next s') → wpAny C.M C.A (exec st C.env) Q E s
section
variable {C : Cx} {vals : List VV} {Mt : List Addr}
theorem Ex1Z.int {x : Str} {np pos cp : Pos} {k : Nat} {v : Int} (i : Nat) (hi : C.ns[i]? = some x) (hw : C.env.kindOf x = some .local ∨ C.fix = [] := by exact .inr rfl) (hs : swapsWith (.Constant (.int v) k cp) (some (.Name x np)) pos.line C.env = pure false := by rfl) : Ex1Z C Mt (.Assign [.Name x np] (.Constant (.int v) k cp) pos) vals (vals.set i (.p (.int v))) := .mk fun X s E Q F h => by
  refine wpAny_Assign_Name (wpAny_Constant_int ?_) hs
  have e₁ : Ext s { s with toks := s.toks + 1 } := Ext.of fun _ _ e => e
  exact FS.storeZ (F.ext e₁.k) hi (.p (.int _ _)) (fun _ _ e => nomatch e) hw fun s₂ k₂ F₂ z => h s₂ ((KB.wide e₁).trans k₂) F₂ z
theorem Ex1Z.bool {x : Str} {np pos cp : Pos} {k : Nat} {v : Bool} (i : Nat) (hi : C.ns[i]? = some x) (hw : C.env.kindOf x = some .local ∨ C.fix = [] := by exact .inr rfl) (hs : swapsWith (.Constant (.bool v) k cp) (some (.Name x np)) pos.line C.env = pure false := by rfl) : Ex1Z C Mt (.Assign [.Name x np] (.Constant (.bool v) k cp) pos) vals (vals.set i (.p (.bool v))) := .mk fun X s E Q F h => by
  refine wpAny_Assign_Name (wpAny_Constant_bool ?_) hs
  exact FS.storeZ F hi (.p (.bool _)) (fun _ _ e => nomatch e) hw fun s₂ k₂ F₂ z => h s₂ k₂ F₂ z
end

/-- the head of the escaping walk -/
structure GHead (C : Cx) (L : Addr) (x : Str) (s1 s2 : Stmt) (iter t3 : Expr) : Prop where
  a1 : ∀ B, Ex1Z (C.at B) [L] s1 [.p (.str x), .u, .u, .u] [.p (.str x), .p (.int 0), .u, .u]
  a2 : ∀ B, Ex1Z (C.at B) [L] s2 [.p (.str x), .p (.int 0), .u, .u] (gV x 0 false .u)
  src : ∀ B X s (E : Value → Shared → Prop) (Q : Value → Shared → Prop), FV (C.at B) X (gV x 0 false .u) s.heap → (∀ t, wpAny C.M B (call (.type "enumerate") [.str x t]) Q E s) → wpAny C.M B (eval iter C.env) Q E s
  fold : ∀ v, foldedSetIterable iter C.env v = pure v
  tst : ∀ B pv esc cv, Ts (C.at B) (gV x pv esc cv) t3 esc

theorem genStart {C : Cx} {L : Addr} {x : Str} {t1 y1 t2 y2 iter t3 : Expr} {st1 st2 s1 s2 : Stmt} {b3 : List Stmt} {xp xc : Str} {A : Around} {X0 : List Addr} {px pc pt yp1 yp2 q1 q2 q3 q4 pf q6 : Pos} {kt : Nat} {s : Shared}
    (G : GBody C L x t1 y1 t2 y2 st1 st2 xp xc) (Hd : GHead C L x s1 s2 iter t3) (hA : A.handled = none)
    (body : List Stmt) (hbody : body = [s1, s2, .For (.Tuple [.Name xp px, .Name xc pc] kt pt) iter [.If t1 [.Expr (.Yield (some y1) yp1) q1, st1] [.If t2 [st2] [.Expr (.Yield (some y2) yp2) q2] q3] q4] [] pf, .If t3 b3 [] q6])
    (hok : escOK false x.cps.toList = true) (F : FS C [L] ([L] ++ X0) [.p (.str x), .u, .u, .u] s.heap) :
    Seg C.M A (genR [s.heap.objs.size, s.heap.objs.size + 1, L]) (genY C.hT [s.heap.objs.size, s.heap.objs.size + 1, L] X0 (escGo 0 false x.cps.toList)) (escGo 0 false x.cps.toList).length s (.func body C.env) (C.M.den (.func body C.env)) [] s := by
  subst hbody
  have hs0 : s.heap.get? s.heap.objs.size = none := get_size
  have hs1 : s.heap.get? (s.heap.objs.size + 1) = none := Heap.get?_none_of_le (Nat.le_succ _)
  have hLX : ∀ a, s.heap.get? a = none → a ∉ [L] ++ X0 := fun a ha hm => by
    obtain ⟨o, e⟩ := F.fv.live a hm
    rw [ha] at e; cases e
  have hTn : ∀ a, s.heap.get? a = none → C.hT.get? a = none := fun a ha => by
    cases e : C.hT.get? a with
    | none => rfl
    | some o => have := F.fv.kp a o e; rw [ha] at this; cases this
  refine seg_func (seg_execs_cons (seg_stmt ((Hd.a1 _).go _ s _ _ (F.at _) fun s₁ k₁ F₁ z₁ => ?_)))
  refine seg_execs_cons (seg_stmt ((Hd.a2 _).go _ s₁ _ _ F₁ fun s₂ k₂ F₂ z₂ => ?_))
  have z : s₂.heap.objs.size = s.heap.objs.size := z₂.trans z₁
  refine seg_execs_cons (seg_For (Hd.src _ _ s₂ _ _ (F₂.fv.at _) fun t => call_enumerate_str fun h' he hit hsz hk => ?_) Hd.fold)
  rw [z] at he hit hsz ⊢
  refine wpAny_pyIter_enum he fun p => ?_
  have F₃ : FS C [L] ([s.heap.objs.size, s.heap.objs.size + 1] ++ ([L] ++ X0)) (gV x 0 false .u) h' := by
    refine FS.wider (F₂.at C.A) (fun a ha => ?_) hk fun a ha => ?_
    · rcases List.mem_cons.mp ha with rfl | ha
      · rw [← z]; exact get_size
      · rw [List.mem_singleton.mp ha, ← z]
        exact Heap.get?_none_of_le (Nat.le_succ _)
    · rcases List.mem_cons.mp ha with rfl | ha
      · obtain ⟨o, ho, _⟩ := hit; exact ⟨o, ho⟩
      · rw [List.mem_singleton.mp ha]; exact ⟨_, he⟩
  have kb : KB [s.heap.objs.size, s.heap.objs.size + 1, L] [] s { s₂ with heap := h' } := ((k₁.trans k₂).mono (fun a ha => by rw [List.mem_singleton.mp ha]; simp) fun _ h => h).trans (KB.wide (Ext.of hk))
  have hne : ∀ a, s.heap.get? a = none → a ≠ L := fun a ha e => hLX a ha (by rw [e]; simp)
  have hin : ∀ a, s.heap.get? a = none → a ∉ X0 := fun a ha hm => hLX a ha (List.mem_append_right _ hm)
  have side1 : s.heap.objs.size + 1 ∉ [s.heap.objs.size] := fun hm => Nat.succ_ne_self _ (List.mem_singleton.mp hm)
  have fin : ∀ {St : Nat → Heap → Prop} {Mid : Nat → Addr → Heap → Prop} {K : Flow → Sem Fin} {H : Value → Sem Fin} {gd : Bool → Bool} {lv : List Value → List Value} {cd : Code}, True := fun {_ _ _ _ _ _ _} => trivial
  cases ha : x.cps.all (· < 128) with
  | true =>
    have hit' : h'.IsStrIter s.heap.objs.size "str_ascii_iterator" x t 0 := by simpa [strIterType, ha] using hit
    refine genLoop (St := fun i h => (∃ old, IsEnum h (s.heap.objs.size + 1) s.heap.objs.size i old) ∧ h.IsStrIter s.heap.objs.size "str_ascii_iterator" x t i) G ?_ rfl rfl (hne _ hs1) (hne _ hs0) (hTn _ hs1) (hTn _ hs0) _ rfl _ rfl (WalksT.enumerateD (Draws.strAscii ?_ s.heap.objs.size x t) (s.heap.objs.size + 1) (Nat.succ_ne_self _) side1 (by simp)) (fun i h hst => ?_) (hin _ hs1) (hin _ hs0) (fun pv cv s₀ s' F' kb' => ?_) _ 0 false 0 .u s _ rfl (Nat.zero_le _) hok ⟨[], rfl⟩ F₃ ⟨⟨_, he⟩, hit'⟩ kb
    · exact fun cd => hA
    · exact hA
    · obtain ⟨⟨old, h1⟩, h2⟩ := hst
      intro a ha
      rcases List.mem_cons.mp ha with rfl | ha
      · exact ⟨_, h1⟩
      · rw [List.mem_singleton.mp ha]; obtain ⟨o, ho, _⟩ := h2; exact ⟨o, ho⟩
    · refine seg_block_nil (seg_execs_cons (seg_If ((Hd.tst _ pv false cv).go _ _ _ _ (F'.fv.at _) fun s₄ e₄ => ?_)))
      exact seg_end (.ok (.ret .none)) ⟨rfl, rfl, kb'.trans (KB.wide e₄)⟩
  | false =>
    have hit' : h'.IsStrIter s.heap.objs.size "str_iterator" x t 0 := by simpa [strIterType, ha] using hit
    refine genLoop (St := fun i h => (∃ old, IsEnum h (s.heap.objs.size + 1) s.heap.objs.size i old) ∧ h.IsStrIter s.heap.objs.size "str_iterator" x t i) G ?_ rfl rfl (hne _ hs1) (hne _ hs0) (hTn _ hs1) (hTn _ hs0) _ rfl _ rfl (WalksT.enumerateD (Draws.strWide ?_ s.heap.objs.size x t) (s.heap.objs.size + 1) (Nat.succ_ne_self _) side1 (by simp)) (fun i h hst => ?_) (hin _ hs1) (hin _ hs0) (fun pv cv s₀ s' F' kb' => ?_) _ 0 false 0 .u s _ rfl (Nat.zero_le _) hok ⟨[], rfl⟩ F₃ ⟨⟨_, he⟩, hit'⟩ kb
    · exact fun cd => hA
    · exact hA
    · obtain ⟨⟨old, h1⟩, h2⟩ := hst
      intro a ha
      rcases List.mem_cons.mp ha with rfl | ha
      · exact ⟨_, h1⟩
      · rw [List.mem_singleton.mp ha]; obtain ⟨o, ho, _⟩ := h2; exact ⟨o, ho⟩
    · refine seg_block_nil (seg_execs_cons (seg_If ((Hd.tst _ pv false cv).go _ _ _ _ (F'.fv.at _) fun s₄ e₄ => ?_)))
      exact seg_end (.ok (.ret .none)) ⟨rfl, rfl, kb'.trans (KB.wide e₄)⟩
end Mine
end
section
open PySem PySem.W PyProof.Rows PySem.Calls
namespace Mine

theorem KB.setGen {W : List Addr} {s s₁ : Shared} {g : Nat} {gs : GenState} (x y : GenState) (hg : s.gens[g]? = some gs) (k : KB W [] (s.setGen g x) s₁) (hx : x.bare = true) (hy : y.bare = true) : KB W [g] s (s₁.setGen g y) := by
  have hb : AllBare s.gens → AllBare (s.setGen g x).gens := GenOnlyQ.bare (GenOnlyQ.of (GenOnly.setGen s g x) (setGen_self hg) hx)
  have hg₁ : s₁.gens[g]? = some x := k.gens g x (fun q => nomatch q) (setGen_self hg)
  refine ⟨fun a o ha e => k.keep a o ha e, fun i z hi e => ?_, fun h z hz => ?_, k.os⟩
  · have hne : i ≠ g := fun q => hi (by rw [q]; simp)
    have h1 : (s.setGen g x).gens[i]? = some z := by simp only [Shared.setGen]; rw [Array.getElem?_setIfInBounds_ne (Ne.symm hne)]; exact e
    have h2 := k.gens i z (fun q => nomatch q) h1
    simp only [Shared.setGen]; rw [Array.getElem?_setIfInBounds_ne (Ne.symm hne)]; exact h2
  · exact GenOnlyQ.bare (GenOnlyQ.of (GenOnly.setGen s₁ g y) (setGen_self hg₁) hy) (k.bare (hb h)) z hz

theorem SrcOK.gen {C : Cx} {vals : List VV} {fn : Str} {np pos : Pos} {ea : Expr} {f : Addr} {o : Obj} {fd : FuncData} {x : Str} {body : List Stmt} {ps rest : List Str} {n : Nat}
    {t1 y1 t2 y2 iter t3 : Expr} {st1 st2 s1 s2 : Stmt} {b3 : List Stmt} {xp xc : Str} {px pc pt yp1 yp2 q1 q2 q3 q4 pf q6 : Pos} {kt : Nat}
    (gv : GV (vals := vals) C fn (.ref f)) (ho : C.hT.get? f = some o) (hdata : o.data = .func fd) (N : Fn fd ps rest) (hps : ps.length = 1) (hr : Rm C.A (n + 1)) (hlim : C.hT.NoLimit) (hcd : C.hT.CodeRec fd.code fd.qualname)
    (hbody : fd.body = .stmts body) (hclo : fd.closure = []) (hco : fd.scope.isCoroutine = false) (hgen : fd.scope.isGenerator = true) (hmt : ∀ L, mtOf fd L = [L])
    (y : Ev C vals ea (.str x)) (hok : escOK false x.cps.toList = true)
    (G : ∀ L, GBody (C.into fd f L (ps ++ rest)) L x t1 y1 t2 y2 st1 st2 xp xc) (Hd : ∀ L, GHead (C.into fd f L (ps ++ rest)) L x s1 s2 iter t3)
    (hb : body = [s1, s2, .For (.Tuple [.Name xp px, .Name xc pc] kt pt) iter [.If t1 [.Expr (.Yield (some y1) yp1) q1, st1] [.If t2 [st2] [.Expr (.Yield (some y2) yp2) q2] q3] q4] [] pf, .If t3 b3 [] q6])
    (he : starEach [ea] C.env = (false, eval ea C.env) :: starEach [] C.env := by rfl) : SrcOK C vals (.Call (.Name fn np) [ea] [] pos) (escGo 0 false x.cps.toList) := .mk fun X s E Q F h => by
  refine wpAny_Call_NameR (gv.go np X s E _ F (callWith_def hdata ((EvL.cons y EvL.nil he).go pos X s E _ F fun vs s₁ e₁ r₁ => ⟨e₁.k _ _ (F.kp _ _ ho), ?_⟩) he))
  have hK₁ := F.kp.ext e₁.k
  have hL₁ := F.live.ext e₁.k
  have hvlen : vs.length = ps.length := by rw [r₁.length, hps]; rfl
  refine wpAny_call (codeAny_call_generator (by have := hr.depth; omega) (hK₁ _ _ ho) hdata hco hgen hbody (hcd.keeps hK₁) ?_)
  rw [N.bind vs hvlen, hclo]
  refine wpAny_pure (wpAny_newFunctionEnv_cells N.kind (fun x hx => ?_) fun env he s₂ x₂ => ?_)
  · have hx1 : x.1 ∈ ps := (List.of_mem_zip (show (x.1, x.2) ∈ ps.zip vs from hx)).1
    exact (N.kinds x.1 (List.mem_append_left _ hx1)).imp id fun q => ⟨q, by
      obtain ⟨c, hc⟩ := lookup_of_name (cellsFrom_mem fd.scope.names (s₁.heap.objs.size + 1) [] x.1 (.inl (PySem.mem_of_lookup q)))
      rw [hc]; rfl⟩
  subst he
  obtain ⟨F₂, hge, e₂⟩ := N.start (C := C) (f := f) hK₁ hL₁ (by rw [hps]; rfl) r₁ 3 x₂
  rw [hmt] at F₂ hge
  refine ⟨hlim.keeps (hK₁.ext e₂.k), ?_⟩
  -- the generator's object
  let L := s₁.heap.objs.size
  let a := s₂.heap.objs.size
  let g := s₂.gens.size
  let gO : Obj := { cls := .type "generator", data := .fields #[.int s₂.gens.size 0, .str fd.name s₂.toks, .str fd.qualname (s₂.toks + 1)] }
  let env := callEnvC fd L f
  let s₃ : Shared := { s₂ with gens := s₂.gens.push (.fresh (.func body env)), toks := s₂.toks + 1 + 1, heap := s₂.heap.push gO }
  let itr := s₃.heap.objs.size
  let xs := escGo 0 false x.cps.toList
  show wpAny C.M C.A (pyIter (.ref a)) Q E s₃
  have hk₃ : ∀ b o, s₂.heap.get? b = some o → s₃.heap.get? b = some o := fun b o e => Heap.get?_push_of_some _ e
  have hIG : s₃.heap.IsGen a g := ⟨gO, _, _, Heap.get?_push_size _ rfl, rfl, rfl, rfl⟩
  have hg₃ : s₃.gens[g]? = some (.fresh (.func body env)) := by simp [s₃, g]
  have e₃ : Ext s₂ s₃ := ⟨fun b o _ e => hk₃ b o e, fun i z _ e => by
    obtain ⟨hi, e'⟩ := Array.getElem?_eq_some_iff.mp e
    show (s₂.gens.push _)[i]? = _
    rw [Array.getElem?_push_lt hi, e'], fun hb => hb.push rfl, rfl⟩
  have eA := (e₁.trans e₂).trans e₃
  have old : ∀ b, s₁.heap.get? b = none → s.heap.get? b = none := fun b hb => by
    cases e : s.heap.get? b with
    | none => rfl
    | some o => have := e₁.k b o e; rw [hb] at this; cases this
  have old₃ : ∀ b, s₃.heap.get? b = none → s.heap.get? b = none := fun b hb => by
    cases e : s.heap.get? b with
    | none => rfl
    | some o => have := eA.k b o e; rw [hb] at this; cases this
  have F₃ := F₂.ext hk₃
  have haX : a ∉ [L] ++ X := fun hm => by
    obtain ⟨o, e⟩ := F₂.fv.live a hm
    exact absurd (Heap.lt_size e) (Nat.lt_irrefl _)
  refine wpAny_pyIter_gen hIG (h (.ref a) s₃ [itr, itr + 1, L] [g] eA (fun b hb => ?_) (fun i hi => ?_) ?_)
  · rcases List.mem_cons.mp hb with rfl | hb
    · exact old₃ _ get_size
    · rcases List.mem_cons.mp hb with rfl | hb
      · exact old₃ _ (Heap.get?_none_of_le (Nat.le_succ _))
      · rw [List.mem_singleton.mp hb]; exact old _ (hge L (by simp [L]))
  · rw [List.mem_singleton.mp hi]
    cases e : s.gens[g]? with
    | none => rfl
    | some z =>
      have := (e₁.trans e₂).gens g z (fun q => nomatch q) e
      obtain ⟨hi, _⟩ := Array.getElem?_eq_some_iff.mp this
      exact absurd hi (Nat.lt_irrefl _)
  -- the walk
  let J : Nat → Shared → Prop := fun i s' => s'.heap.IsGen a g ∧ (i = 0 → s' = s₃) ∧ (0 < i → i ≤ xs.length ∧ Live ([itr, itr + 1, L] ++ X) s'.heap ∧ ∃ gs, s'.gens[g]? = some gs ∧
    ∀ s'', (∀ b o, (b ∉ [itr, itr + 1, L] ++ X ∨ b ∈ [itr, itr + 1, L]) → s'.heap.get? b = some o → s''.heap.get? b = some o) → Kp C.hT s''.heap → Live ([itr, itr + 1, L] ++ X) s''.heap →
      gs.Goes C.M C.A.in1 (genR [itr, itr + 1, L]) (genY C.hT [itr, itr + 1, L] X xs) (xs.length - i) (.send .none) s'')
  have goes : ∀ i s', J i s' → Kp C.hT s'.heap → ∃ gs, s'.gens[g]? = some gs ∧ gs.Goes C.M C.A.in1 (genR [itr, itr + 1, L]) (genY C.hT [itr, itr + 1, L] X xs) (xs.length - i) (.send .none) (s'.setGen g .running) := fun i s' hJ hK => by
    rcases Nat.eq_zero_or_pos i with rfl | hi
    · rw [hJ.2.1 rfl]
      refine ⟨_, hg₃, rfl, ?_⟩
      exact genStart (A := C.A.in1) (C := C.into fd f L (ps ++ rest)) (s := s₃.setGen g .running) (G L) (Hd L) hr.hh body hb hok F₃
    · obtain ⟨_, hl, gs, h1, h2⟩ := hJ.2.2 hi
      exact ⟨gs, h1, h2 _ (fun b o _ e => e) hK hl⟩
  have hroom : C.A.depth < recursionLimit := by have := hr.depth; omega
  have keepA : ∀ {s' s'' : Shared} {M : List Addr} {Gt : List Nat}, KB M Gt s' s'' → (∀ b ∈ M, b ∈ [itr, itr + 1, L] ++ X) → s'.heap.IsGen a g → s''.heap.IsGen a g := fun k hM ⟨o, nm, qn, e, r⟩ => ⟨o, nm, qn, k.keep a o (fun hm => by
    have := hM a hm
    rcases List.mem_append.mp this with q | q
    · rcases List.mem_cons.mp q with q | q
      · have h1 : a < itr := by show s₂.heap.objs.size < (s₂.heap.push gO).objs.size; rw [Heap.size_push]; exact Nat.lt_succ_self _
        exact absurd (q ▸ h1) (Nat.lt_irrefl _)
      · rcases List.mem_cons.mp q with q | q
        · have h1 : a < itr + 1 := by show s₂.heap.objs.size < (s₂.heap.push gO).objs.size + 1; rw [Heap.size_push]; exact Nat.lt_succ_of_lt (Nat.lt_succ_self _)
          exact absurd (q ▸ h1) (Nat.lt_irrefl _)
        · exact haX (List.mem_append_left _ q)
    · exact haX (List.mem_append_right _ q)) e, r⟩
  refine ⟨J, ⟨fun i s' s'' M hJ k hM hl => ⟨keepA k (fun b hb => (hM b hb).1) hJ.1, fun q => absurd q (Nat.succ_ne_zero _), fun _ => ?_⟩, fun i s' E' Q' d hJ hK hx hQ => ?_, fun s' E' Q' hJ hK hQ => ?_, fun i s' E' Q' target v hJ hQ => ?_⟩, ⟨hIG, fun _ => rfl, fun q => absurd q (Nat.lt_irrefl 0)⟩⟩
  · obtain ⟨h0, _, gs, h1, h2⟩ := hJ.2.2 (Nat.succ_pos i)
    refine ⟨h0, hl, gs, k.gens g gs (fun q => nomatch q) h1, fun s₄ hk₄ hK₄ hl₄ => h2 s₄ (fun b o hb e => hk₄ b o hb (k.keep b o (fun hm => ?_) e)) hK₄ hl₄⟩
    rcases hb with hb | hb
    · exact hb (hM b hm).1
    · exact (hM b hm).2 hb
  · obtain ⟨gs, h1, h2⟩ := goes i s' hJ hK
    have hi : i < xs.length := (List.getElem?_eq_some_iff.mp hx).1
    refine pyNext_genQ hr.hh (hlim.keeps hK) hroom hJ.1 h1 h2 (fun v s₄ gs' hbare hY => ?_) (fun s₄ hP => ?_)
    · obtain ⟨k, hl, hK₄, ⟨d', hd', r⟩, hgo⟩ := hY
      have hidx : xs.length - (xs.length - i - 1 + 1) = i := by omega
      rw [hidx, hx] at hd'; cases hd'
      have k' := k.setGen .running gs' h1 rfl hbare
      refine hQ v _ k' r ⟨keepA k' (fun b hb => List.mem_append_left _ hb) hJ.1, fun q => absurd q (Nat.succ_ne_zero _), fun _ => ⟨hi, hl, gs', ?_, fun s₅ hk₅ hK₅ hl₅ => ?_⟩⟩ (fun b hb => hl b (List.mem_append_left _ hb))
      · exact setGen_self (k.gens g .running (fun q => nomatch q) (setGen_self h1))
      · have := hgo s₅ hk₅ hK₅ hl₅
        obtain ⟨m, hm⟩ : ∃ m, xs.length - i = m + 1 := ⟨xs.length - i - 1, by omega⟩
        have hm2 : xs.length - (i + 1) = m := by omega
        rw [hm2]
        rw [hm] at this
        exact this
    · obtain ⟨hn, _⟩ := hP
      omega
  · obtain ⟨gs, h1, h2⟩ := goes _ s' hJ hK
    rw [Nat.sub_self] at h2
    refine pyNext_genQ hr.hh (hlim.keeps hK) hroom hJ.1 h1 h2 (fun v s₄ gs' hbare hY => ?_) (fun s₄ hP h' hk' => ?_)
    · obtain ⟨k, hl, hK₄, _, hgo⟩ := hY
      exact (hgo s₄ (fun b o _ e => e) hK₄ hl).elim
    · obtain ⟨_, k⟩ := hP
      have k' := k.setGen .running .finished h1 rfl rfl
      exact hQ _ ⟨fun b o hb e => hk' b o (k'.keep b o hb e), k'.gens, k'.bare, k'.os⟩
  · obtain ⟨o, nm, qn, e, hc, _⟩ := hJ.1
    exact go_of e hc (by decide) hQ
end Mine
end
section
open PySem PySem.W PyProof.Rows PySem.Calls
namespace Mine
open Sre (M)

theorem runFor_add (a b : Nat) (m : M) : M.runFor (a + b) m = M.runFor b (M.runFor a m) := by
  induction a generalizing m with
  | zero => rw [Nat.zero_add]; rfl
  | succ a ih =>
    rw [Nat.succ_add]
    show (if m.outcome.isSome then m else M.runFor (a + b) m.step) = M.runFor b (if m.outcome.isSome then m else M.runFor a m.step)
    split
    · rename_i h
      cases b with
      | zero => rfl
      | succ b => show m = if m.outcome.isSome then m else _; rw [if_pos h]
    · exact ih _
theorem runFor_done {m : M} (h : m.outcome.isSome = true) (k : Nat) : M.runFor k m = m := by
  cases k with
  | zero => rfl
  | succ k => show (if m.outcome.isSome then m else _) = m; rw [if_pos h]
theorem runFor_step {m : M} (h : m.outcome = none) (k : Nat) : M.runFor (k + 1) m = M.runFor k m.step := by
  show (if m.outcome.isSome then m else _) = _
  rw [h]; rfl

/-- one machine goes to another -/
noncomputable def Goes (n : Nat) (m m' : M) : Prop := ∃ k, k ≤ n ∧ M.runFor k m = m'
theorem Goes.refl {m : M} : Goes 0 m m := ⟨0, Nat.le_refl _, rfl⟩
theorem Goes.step {n : Nat} {m m1 m' : M} (ho : m.outcome = none) (hs : m.step = m1) (h : Goes n m1 m') : Goes (n + 1) m m' := by
  obtain ⟨k, hk, e⟩ := h
  exact ⟨k + 1, by omega, by rw [runFor_step ho, hs, e]⟩
theorem Goes.trans {a b : Nat} {m m1 m2 : M} (x : Goes a m m1) (y : Goes b m1 m2) : Goes (a + b) m m2 := by
  obtain ⟨k, hk, e⟩ := x
  obtain ⟨l, hl, e'⟩ := y
  exact ⟨k + l, by omega, by rw [runFor_add, e, e']⟩
theorem Goes.mono {a b : Nat} {m m' : M} (x : Goes a m m') (h : a ≤ b) : Goes b m m' := by
  obtain ⟨k, hk, e⟩ := x
  exact ⟨k, by omega, e⟩

/-- a machine without groups and loops -/
noncomputable abbrev mk (code text : Array Nat) (st pc pos handed : Nat) (om : Bool) (fr : List Sre.Frame) (wt : Nat) (ans : Option Bool) (seen : Sre.Seen) (oc : Option Sre.Outcome) : M :=
  { code := code, text := text, lim := text.size, start := st, lastStart := text.size, wholeText := false, mustAdvance := false, pc := pc, pos := pos, handed := handed, outermost := om, marks := #[], lastmark := -1, lastindex := -1, loops := #[], inner := none, frames := fr, weight := wt, answer := ans, seen := seen, outcome := oc }

noncomputable abbrev code1 : Array Nat := #[14, 4, 0, 1, 1, 6, 1, 16, 46, 1]
noncomputable abbrev fr1 (s : Nat) (om : Bool) : Sre.Frame := { wait := .nextStart, pc := 5, pos := s, outermost := om }
noncomputable abbrev try1 (text : Array Nat) (s : Nat) (om : Bool) (seen : Sre.Seen) : M := mk code1 text s 5 s s om [fr1 s om] 1 none seen none

/-- a line starts here -/
noncomputable def bol (text : Array Nat) (s : Nat) : Bool := s == 0 || text.getD (s - 1) 0 == 10

theorem step1_at (text : Array Nat) (s : Nat) (om : Bool) (seen : Sre.Seen) : (try1 text s om seen).step = if bol text s then mk code1 text s 7 s s om [fr1 s om] 1 none ((seen.add 6).add 44) none else mk code1 text s 5 s s om [fr1 s om] 1 (some false) ((seen.add 6).add 44) none := by
  rfl
/-- a literal of the pattern -/
theorem step_lit {code text : Array Nat} {st pc pos hd wt c : Nat} {om : Bool} {fr : List Sre.Frame} {seen : Sre.Seen} (hpc : pc < code.size) (h0 : code.getD pc 0 = 16) (h1 : code.getD (pc + 1) 0 = c) :
    (mk code text st pc pos hd om fr wt none seen none).step = if pos < text.size ∧ text.getD pos 0 = c then mk code text st (pc + 2) (pos + 1) hd om fr wt none (seen.add 16) none else mk code text st pc pos hd om fr wt (some false) (seen.add 16) none := by
  have e1 : (mk code text st pc pos hd om fr wt none seen none).step = (mk code text st pc pos hd om fr wt none seen none).exec := by
    show (if pc < code.size then M.exec _ else _) = _
    rw [if_pos hpc]
  have e2 : (mk code text st pc pos hd om fr wt none seen none).word 0 = 16 := h0
  have e3 : Sre.accepts code pc (text.getD pos 0) (seen.add 16) = .ok (text.getD pos 0 == c, seen.add 16) := by
    unfold Sre.accepts
    rw [h0, h1]; rfl
  have e4 : Sre.itemWidth code pc = 2 := by unfold Sre.itemWidth; rw [h0]; rfl
  rw [e1]
  unfold M.exec
  rw [e2]
  show (if pos ≥ text.size then _ else (match Sre.accepts code pc (text.getD pos 0) (seen.add 16) with | .error why => _ | .ok (false, seen) => _ | .ok (true, seen) => _)) = _
  by_cases h : pos < text.size
  · rw [if_neg (by omega), e3]
    by_cases hc : text.getD pos 0 = c
    · rw [if_pos ⟨h, hc⟩, beq_iff_eq.mpr hc]
      show mk code text st (pc + Sre.itemWidth code pc) (pos + 1) hd om fr wt none (seen.add 16) none = _
      rw [e4]
    · rw [if_neg (fun q => hc q.2), beq_eq_false_iff_ne.mpr hc]; rfl
  · rw [if_pos (by omega), if_neg (fun q => h q.1)]; rfl

section
variable {code text : Array Nat} {st pc pos hd wt : Nat} {om : Bool} {fr : List Sre.Frame} {seen : Sre.Seen}
theorem step_exec (hpc : pc < code.size) : (mk code text st pc pos hd om fr wt none seen none).step = (mk code text st pc pos hd om fr wt none seen none).exec := by
  show (if pc < code.size then M.exec _ else _) = _
  rw [if_pos hpc]
theorem step_succ (hpc : pc < code.size) (h0 : code.getD pc 0 = 1) : (mk code text st pc pos hd om fr wt none seen none).step = mk code text st pc pos pos om fr wt (some true) (seen.add 1) none := by
  have e2 : (mk code text st pc pos hd om fr wt none seen none).word 0 = 1 := h0
  rw [step_exec hpc]
  unfold M.exec
  rw [e2]
  show (if (om && ((false && _) || (false && _))) = true then _ else _) = _
  rw [if_neg (by simp)]; rfl
theorem step_jump {k : Nat} (hpc : pc < code.size) (h0 : code.getD pc 0 = 15) (h1 : code.getD (pc + 1) 0 = k) : (mk code text st pc pos hd om fr wt none seen none).step = mk code text st (pc + 1 + k) pos hd om fr wt none (seen.add 15) none := by
  have e2 : (mk code text st pc pos hd om fr wt none seen none).word 0 = 15 := h0
  rw [step_exec hpc]
  unfold M.exec
  rw [e2]
  show mk code text st (pc + 1 + code.getD (pc + 1) 0) pos hd om fr wt none (seen.add 15) none = _
  rw [h1]
theorem step_end (b : Bool) : (mk code text st pc pos hd om [] wt (some b) seen none).step = mk code text st pc pos hd om [] wt (some b) seen (some (if b then .matched else .failed)) := rfl
/-- a yes goes through -/
theorem step_yes {f : Sre.Frame} (hf : f.wait = .nextStart ∨ f.wait = .nextBranch) (hm : f.kept.marks.size = 0) : (mk code text st pc pos hd om (f :: fr) wt (some true) seen none).step = mk code text st f.pc f.pos hd f.outermost fr (wt - 1) (some true) seen none := by
  show M.resume (mk code text st f.pc f.pos hd f.outermost fr (wt - (1 + f.kept.marks.size)) none seen none) f true = _
  rw [hm]
  unfold M.resume
  rcases hf with h | h <;> rw [h] <;> rfl
end

/-- where the first pattern finds a dot -/
noncomputable def find1 (text : Array Nat) : Nat → Nat → Option Nat
  | 0, _ => none
  | d + 1, s => if bol text s && text.getD s 0 == 46 then some s else find1 text d (s + 1)

noncomputable def Found (m : M) (o : Option (Nat × Nat)) : Prop := match o with
  | some (s, e) => m.outcome = some .matched ∧ m.start = s ∧ m.handed = e
  | none => m.outcome = some .failed

theorem next1 (text : Array Nat) (s pc pos : Nat) (om om' : Bool) (seen : Sre.Seen) : (mk code1 text s pc pos s om' [fr1 s om] 1 (some false) seen none).step = if s < text.size then try1 text (s + 1) false seen else mk code1 text s 5 s s om [] 0 (some false) seen none := rfl

theorem search1 (text : Array Nat) : ∀ (d s : Nat) (om : Bool) (seen : Sre.Seen), s + d = text.size → ∃ m, Goes (6 * (d + 1)) (try1 text s om seen) m ∧ Found m ((find1 text d s).map fun i => (i, i + 1)) := by
  intro d
  induction d with
  | zero =>
    intro s om seen hs
    have hlt : ¬ s < text.size := by omega
    cases hb : bol text s with
    | false =>
      refine ⟨_, Goes.mono (Goes.step rfl ((step1_at text s om seen).trans (by rw [hb]; rfl)) (Goes.step rfl ((next1 text s 5 s om om _).trans (if_neg hlt)) (Goes.step rfl (step_end false) Goes.refl))) (by omega), rfl⟩
    | true =>
      refine ⟨_, Goes.mono (Goes.step rfl ((step1_at text s om seen).trans (by rw [hb]; rfl)) (Goes.step rfl ((step_lit (c := 46) (by decide) rfl rfl).trans (if_neg (fun q => hlt q.1))) (Goes.step rfl ((next1 text s 7 s om om _).trans (if_neg hlt)) (Goes.step rfl (step_end false) Goes.refl)))) (by omega), rfl⟩
  | succ d ih =>
    intro s om seen hs
    have hlt : s < text.size := by omega
    cases hb : bol text s with
    | false =>
      obtain ⟨m, g, f⟩ := ih (s + 1) false ((seen.add 6).add 44) (by omega)
      refine ⟨m, Goes.mono (Goes.step rfl ((step1_at text s om seen).trans (by rw [hb]; rfl)) (Goes.step rfl ((next1 text s 5 s om om _).trans (if_pos hlt)) g)) (by omega), ?_⟩
      simpa only [find1, hb, Bool.false_and, Bool.false_eq_true, if_false] using f
    | true =>
      by_cases hc : text.getD s 0 = 46
      · refine ⟨_, Goes.mono (Goes.step rfl ((step1_at text s om seen).trans (by rw [hb]; rfl)) (Goes.step rfl ((step_lit (c := 46) (by decide) rfl rfl).trans (if_pos ⟨hlt, hc⟩)) (Goes.step rfl (step_succ (by decide) rfl) (Goes.step rfl (step_yes (.inl rfl) rfl) (Goes.step rfl (step_end true) Goes.refl))))) (by omega), ?_⟩
        simp only [find1, hb, hc, Bool.true_and, beq_self_eq_true, if_true, Option.map]
        exact ⟨rfl, rfl, rfl⟩
      · obtain ⟨m, g, f⟩ := ih (s + 1) false (((seen.add 6).add 44).add 16) (by omega)
        refine ⟨m, Goes.mono (Goes.step rfl ((step1_at text s om seen).trans (by rw [hb]; rfl)) (Goes.step rfl ((step_lit (c := 46) (by decide) rfl rfl).trans (if_neg (fun q => hc q.2))) (Goes.step rfl ((next1 text s 7 s om om _).trans (if_pos hlt)) g))) (by omega), ?_⟩
        simpa only [find1, hb, hc, Bool.true_and, beq_iff_eq, if_false] using f
end Mine
end
section
open PySem PySem.W PyProof.Rows PySem.Calls
namespace Mine
open Sre (M)

noncomputable abbrev code2 : Array Nat := #[14, 9, 4, 1, 2, 16, 10, 16, 13, 0, 7, 7, 16, 13, 16, 10, 15, 18, 5, 16, 10, 15, 13, 11, 16, 13, 5, 5, 0, 16, 10, 1, 15, 2, 0, 1]
noncomputable abbrev fr2 (s : Nat) (om : Bool) : Sre.Frame := { wait := .nextStart, pc := 10, pos := s, outermost := om }
noncomputable abbrev kp2 : Sre.Kept := { lastmark := -1, lastindex := -1, whole := false, marks := #[] }
noncomputable abbrev fb2 (j s : Nat) (om : Bool) : Sre.Frame := { wait := .nextBranch, pc := j, pos := s, outermost := om, kept := kp2 }
noncomputable abbrev fl2 (s : Nat) (om : Bool) : Sre.Frame := { wait := .lookNot, pc := 26, pos := s, outermost := om, kept := kp2 }
noncomputable abbrev try2 (text : Array Nat) (s : Nat) (om : Bool) (seen : Sre.Seen) : M := mk code2 text s 10 s s om [fr2 s om] 1 none seen none

theorem step2_br (text : Array Nat) (s : Nat) (om : Bool) (seen : Sre.Seen) : (try2 text s om seen).step = mk code2 text s 12 s s om [fb2 11 s om, fr2 s om] 2 none (seen.add 7) none := rfl
theorem step2_alt1 (text : Array Nat) (st pc pos hd s : Nat) (om om' : Bool) (fr : List Sre.Frame) (seen : Sre.Seen) : (mk code2 text st pc pos hd om' (fb2 11 s om :: fr) 2 (some false) seen none).step = mk code2 text st 19 s s om (fb2 18 s om :: fr) 2 none seen none := rfl
theorem step2_alt2 (text : Array Nat) (st pc pos hd s : Nat) (om om' : Bool) (fr : List Sre.Frame) (seen : Sre.Seen) : (mk code2 text st pc pos hd om' (fb2 18 s om :: fr) 2 (some false) seen none).step = mk code2 text st 24 s s om (fb2 23 s om :: fr) 2 none seen none := rfl
theorem step2_not (text : Array Nat) (st pos hd : Nat) (om : Bool) (fr : List Sre.Frame) (seen : Sre.Seen) : (mk code2 text st 26 pos hd om fr 2 none seen none).step = mk code2 text st 29 pos pos false (fl2 pos om :: fr) 3 none (seen.add 5) none := rfl
theorem step2_look (text : Array Nat) (st pc pos hd s : Nat) (om om' : Bool) (fr : List Sre.Frame) (seen : Sre.Seen) : (mk code2 text st pc pos hd om' (fl2 s om :: fr) 3 (some false) seen none).step = mk code2 text st 32 s hd om fr 2 none seen none := rfl

/-- the second pattern at a line end -/
theorem at2 (text : Array Nat) (s : Nat) (om : Bool) (seen : Sre.Seen) (hs : s < text.size) (hc : text.getD s 0 = 10 ∨ text.getD s 0 = 13) :
    ∃ m, Goes 20 (try2 text s om seen) m ∧ Found m (some (s, if text.getD s 0 = 13 ∧ (s + 1 < text.size ∧ text.getD (s + 1) 0 = 10) then s + 2 else s + 1)) := by
  by_cases h13 : text.getD s 0 = 13
  · by_cases hn : s + 1 < text.size ∧ text.getD (s + 1) 0 = 10
    · refine ⟨_, Goes.mono (Goes.step rfl (step2_br text s om seen) (Goes.step rfl ((step_lit (c := 13) (by decide) rfl rfl).trans (if_pos ⟨hs, h13⟩)) (Goes.step rfl ((step_lit (c := 10) (by decide) rfl rfl).trans (if_pos hn)) (Goes.step rfl (step_jump (k := 18) (by decide) rfl rfl) (Goes.step rfl (step_succ (by decide) rfl)
        (Goes.step rfl (step_yes (.inr rfl) rfl) (Goes.step rfl (step_yes (.inl rfl) rfl) (Goes.step rfl (step_end true) Goes.refl)))))))) (by omega), ?_⟩
      exact ⟨rfl, rfl, (if_pos ⟨h13, hn⟩).symm⟩
    · have h10 : ¬ (s < text.size ∧ text.getD s 0 = 10) := fun q => by rw [h13] at q; exact absurd q.2 (by decide)
      refine ⟨_, Goes.mono (Goes.step rfl (step2_br text s om seen) (Goes.step rfl ((step_lit (c := 13) (by decide) rfl rfl).trans (if_pos ⟨hs, h13⟩)) (Goes.step rfl ((step_lit (c := 10) (by decide) rfl rfl).trans (if_neg hn)) (Goes.step rfl (step2_alt1 ..)
        (Goes.step rfl ((step_lit (c := 10) (by decide) rfl rfl).trans (if_neg h10)) (Goes.step rfl (step2_alt2 ..) (Goes.step rfl ((step_lit (c := 13) (by decide) rfl rfl).trans (if_pos ⟨hs, h13⟩)) (Goes.step rfl (step2_not ..)
        (Goes.step rfl ((step_lit (c := 10) (by decide) rfl rfl).trans (if_neg hn)) (Goes.step rfl (step2_look ..) (Goes.step rfl (step_jump (k := 2) (by decide) rfl rfl) (Goes.step rfl (step_succ (by decide) rfl)
        (Goes.step rfl (step_yes (.inr rfl) rfl) (Goes.step rfl (step_yes (.inl rfl) rfl) (Goes.step rfl (step_end true) Goes.refl))))))))))))))) (by omega), ?_⟩
      exact ⟨rfl, rfl, (if_neg (fun q => hn q.2)).symm⟩
  · have h10 : text.getD s 0 = 10 := hc.resolve_right h13
    refine ⟨_, Goes.mono (Goes.step rfl (step2_br text s om seen) (Goes.step rfl ((step_lit (c := 13) (by decide) rfl rfl).trans (if_neg (fun q => h13 q.2))) (Goes.step rfl (step2_alt1 ..)
        (Goes.step rfl ((step_lit (c := 10) (by decide) rfl rfl).trans (if_pos ⟨hs, h10⟩)) (Goes.step rfl (step_jump (k := 13) (by decide) rfl rfl) (Goes.step rfl (step_succ (by decide) rfl)
        (Goes.step rfl (step_yes (.inr rfl) rfl) (Goes.step rfl (step_yes (.inl rfl) rfl) (Goes.step rfl (step_end true) Goes.refl))))))))) (by omega), ?_⟩
    exact ⟨rfl, rfl, (if_neg (fun q => h13 q.1)).symm⟩

/-- the next line end -/
noncomputable def find2 (text : Array Nat) : Nat → Nat → Option Nat
  | 0, _ => none
  | d + 1, s => if text.getD s 0 == 10 || text.getD s 0 == 13 then some s else find2 text d (s + 1)

theorem inSet2 (c : Nat) (seen : Sre.Seen) : ∃ seen', Sre.inSet code2 c code2.size 5 true seen = .ok (c == 10 || c == 13, seen') := by
  have e : Sre.inSet code2 c code2.size 5 true seen = (if (c == 10) = true then .ok (true, seen.add 16) else if (c == 13) = true then .ok (true, (seen.add 16).add 16) else .ok (false, ((seen.add 16).add 16).add 0)) := rfl
  rw [e]
  cases c == 10 with
  | true => exact ⟨_, rfl⟩
  | false => cases c == 13 with
    | true => exact ⟨_, rfl⟩
    | false => exact ⟨_, rfl⟩
theorem admitted2 (m : M) (hcode : m.code = code2) : ∀ (d s : Nat) (seen : Sre.Seen), s + d = m.lim → ∃ seen', M.admitted m (d + 1) s seen = .ok (find2 m.text d s, seen') := by
  intro d
  induction d with
  | zero =>
    intro s seen hs
    exact ⟨seen, by show (if s ≥ m.lim then _ else _) = _; rw [if_pos (by omega)]; rfl⟩
  | succ d ih =>
    intro s seen hs
    obtain ⟨seen', e⟩ := inSet2 (m.text.getD s 0) seen
    have e' : Sre.inSet m.code (m.text.getD s 0) m.code.size 5 true seen = .ok (m.text.getD s 0 == 10 || m.text.getD s 0 == 13, seen') := by rw [hcode]; exact e
    have e0 : M.admitted m (d + 1 + 1) s seen = if s ≥ m.lim then .ok (none, seen) else match Sre.inSet m.code (m.text.getD s 0) m.code.size 5 true seen with
      | .ok (true, seen) => .ok (some s, seen)
      | .ok (false, seen) => M.admitted m (d + 1) (s + 1) seen
      | .error why => .error why := rfl
    rw [e0, if_neg (by omega), e']
    cases hb : m.text.getD s 0 == 10 || m.text.getD s 0 == 13 with
    | true => exact ⟨seen', by simp only [find2, hb, if_true]⟩
    | false =>
      obtain ⟨seen'', e2⟩ := ih (s + 1) seen' (by omega)
      exact ⟨seen'', by simp only [find2, hb, Bool.false_eq_true, if_false]; exact e2⟩
theorem find2_spec (text : Array Nat) : ∀ (d s i : Nat), find2 text d s = some i → s ≤ i ∧ i < s + d ∧ (text.getD i 0 = 10 ∨ text.getD i 0 = 13) := by
  intro d
  induction d with
  | zero => intro s i h; cases h
  | succ d ih =>
    intro s i h
    unfold find2 at h
    split at h
    · rename_i hb
      cases h
      exact ⟨Nat.le_refl _, by omega, by simpa using hb⟩
    · obtain ⟨a, b, c⟩ := ih (s + 1) i h
      exact ⟨by omega, by omega, c⟩

noncomputable def len2 (text : Array Nat) (s : Nat) : Nat := if text.getD s 0 = 13 ∧ (s + 1 < text.size ∧ text.getD (s + 1) 0 = 10) then s + 2 else s + 1

theorem search2 (text : Array Nat) (s : Nat) (hs : s ≤ text.size) : ∃ m, Goes 30 (Sre.forSearch code2 text 0 s text.size false) m ∧ Found m ((find2 text (text.size - s) s).map fun i => (i, len2 text i)) := by
  by_cases hlt : s < text.size
  · have e1 : Sre.forSearch code2 text 0 s text.size false = M.attemptFrom (mk code2 text s 10 s s true [] 0 none (({} : Sre.Seen).add 14) none) s true := by
      show (if (decide (s > text.size) || decide (text.size - s < 1)) = true then _ else _) = _
      rw [if_neg (by simp; omega)]; rfl
    obtain ⟨seen', e2⟩ := admitted2 (mk code2 text s 10 s s true [] 0 none (({} : Sre.Seen).add 14) none) rfl (text.size - s) s (({} : Sre.Seen).add 14) (by show s + (text.size - s) = text.size; omega)
    have e3 : M.attemptFrom (mk code2 text s 10 s s true [] 0 none (({} : Sre.Seen).add 14) none) s true = match M.admitted (mk code2 text s 10 s s true [] 0 none (({} : Sre.Seen).add 14) none) (text.size + 1 - s) s (({} : Sre.Seen).add 14) with
      | .ok (some s, seen) => M.attemptAt { mk code2 text s 10 s s true [] 0 none (({} : Sre.Seen).add 14) none with mustAdvance := false, seen } s true
      | .ok (none, seen) => M.say { mk code2 text s 10 s s true [] 0 none (({} : Sre.Seen).add 14) none with seen } false
      | .error why => M.stick (mk code2 text s 10 s s true [] 0 none (({} : Sre.Seen).add 14) none) why := rfl
    have e4 : text.size + 1 - s = text.size - s + 1 := by omega
    have e2' : M.admitted (mk code2 text s 10 s s true [] 0 none (({} : Sre.Seen).add 14) none) (text.size - s + 1) s (({} : Sre.Seen).add 14) = .ok (find2 text (text.size - s) s, seen') := e2
    rw [e1, e3, e4, e2']
    cases hf : find2 text (text.size - s) s with
    | none => exact ⟨_, Goes.mono (Goes.step rfl (step_end (code := code2) (text := text) (st := s) (pc := 10) (pos := s) (hd := s) (om := true) (wt := 0) (seen := seen') false) Goes.refl) (by omega), rfl⟩
    | some i =>
      obtain ⟨h1, h2, h3⟩ := find2_spec text _ _ _ hf
      obtain ⟨m, g, f⟩ := at2 text i true seen' (by omega) h3
      exact ⟨m, g.mono (by omega), f⟩
  · have hs' : s = text.size := by omega
    subst hs'
    rw [Nat.sub_self]
    have e1 : Sre.forSearch code2 text 0 text.size text.size false = M.say { mk code2 text text.size 10 text.size text.size true [] 0 none (({} : Sre.Seen).add 14) none with lastStart := 0 } false := by
      show (if (decide (text.size > text.size) || decide (text.size - text.size < 1)) = true then _ else _) = _
      rw [if_pos (by simp)]; rfl
    rw [e1]
    exact ⟨_, Goes.mono (Goes.step rfl rfl Goes.refl) (by omega), rfl⟩

theorem search1' (text : Array Nat) (s : Nat) (hs : s ≤ text.size) : ∃ m, Goes (6 * (text.size + 2)) (Sre.forSearch code1 text 0 s text.size false) m ∧ Found m ((find1 text (text.size - s) s).map fun i => (i, i + 1)) := by
  by_cases hlt : s < text.size
  · have e1 : Sre.forSearch code1 text 0 s text.size false = try1 text s true (({} : Sre.Seen).add 14) := by
      show (if (decide (s > text.size) || decide (text.size - s < 1)) = true then _ else _) = _
      rw [if_neg (by simp; omega)]; rfl
    obtain ⟨m, g, f⟩ := search1 text (text.size - s) s true (({} : Sre.Seen).add 14) (by omega)
    exact ⟨m, by rw [e1]; exact g.mono (by omega), f⟩
  · have hs' : s = text.size := by omega
    subst hs'
    rw [Nat.sub_self]
    have e1 : Sre.forSearch code1 text 0 text.size text.size false = M.say { mk code1 text text.size 5 text.size text.size true [] 0 none (({} : Sre.Seen).add 14) none with lastStart := 0 } false := by
      show (if (decide (text.size > text.size) || decide (text.size - text.size < 1)) = true then _ else _) = _
      rw [if_pos (by simp)]; rfl
    rw [e1]
    exact ⟨_, Goes.mono (Goes.step rfl rfl Goes.refl) (by omega), rfl⟩
end Mine
end
section
open PySem PySem.W PyProof.Rows PySem.Calls
namespace Mine
open Builtin.Re

section
variable {M : Model} {A : Around} {E : Value → Shared → Prop} {s : Shared}
theorem wpAny_reDrive {m' : Sre.M} (hm : m'.outcome.isSome = true) {Q : Sre.M → Shared → Prop} (h : Q m' s) : ∀ (turns n : Nat) (m : Sre.M), Goes n m m' → n + 1 ≤ 4 * turns → wpAny M A (reDrive turns m) Q E s
  | 0, n, m, _, hn => by omega
  | turns + 1, n, m, g, hn => by
    obtain ⟨k, hk, e⟩ := g
    show wpAny M A (if (m.runFor 4).outcome.isSome then pure (m.runFor 4) else (rule "sre.turn" >>= fun _ => reDrive turns (m.runFor 4))) Q E s
    by_cases h4 : k ≤ 4
    · have e4 : m.runFor 4 = m' := by
        have : 4 = k + (4 - k) := by omega
        rw [this, runFor_add, e, runFor_done hm]
      rw [e4, if_pos hm]; exact wpAny_pure h
    · have e4 : (m.runFor 4).runFor (k - 4) = m' := by
        rw [← runFor_add]
        have : 4 + (k - 4) = k := by omega
        rw [this, e]
      by_cases ho : (m.runFor 4).outcome.isSome = true
      · rw [if_pos ho]
        rw [runFor_done ho] at e4
        rw [e4]; exact wpAny_pure h
      · rw [if_neg ho]
        exact wpAny_bind (wpAny_rule (wpAny_reDrive hm h turns (n - 4) (m.runFor 4) ⟨k - 4, by omega, e4⟩ (by omega)))
theorem wpAny_rules {f : Nat → Bool} {g : Nat → String} {Q : PUnit → Shared → Prop} (h : Q ⟨⟩ s) : ∀ l : List Nat, wpAny M A (forIn l PUnit.unit fun i _ => (if f i = true then do rule (g i); pure (ForInStep.yield PUnit.unit) else pure (ForInStep.yield PUnit.unit) : Sem (ForInStep PUnit))) Q E s
  | [] => by rw [List.forIn_nil]; exact wpAny_pure h
  | i :: l => by
    rw [List.forIn_cons]
    refine wpAny_bind ?_
    cases hb : f i with
    | true => rw [if_pos rfl]; exact wpAny_bind (wpAny_rule (wpAny_pure (wpAny_rules h l)))
    | false => rw [if_neg Bool.false_ne_true]; exact wpAny_pure (wpAny_rules h l)
theorem wpAny_reRunToEnd {m m' : Sre.M} {n : Nat} {o : Option (Nat × Nat)} (g : Goes n m m') (hn : n + 1 ≤ 4 * 2 ^ 64) (f : Found m' o) {Q : Option Sre.M → Shared → Prop}
    (h1 : ∀ a b, o = some (a, b) → m'.start = a → m'.handed = b → Q (some m') s) (h0 : o = none → Q none s) : wpAny M A (reRunToEnd m) Q E s := by
  have hm : m'.outcome.isSome = true := by
    cases o with
    | none => rw [show m'.outcome = _ from f]; rfl
    | some p => obtain ⟨a, b⟩ := p; rw [f.1]; rfl
  unfold reRunToEnd
  refine wpAny_bind (wpAny_reDrive hm ?_ (2 ^ 64) n m g hn)
  refine wpAny_bind ?_
  refine wpAny_rules (f := fun i => m'.seen.has i) (g := fun i => Sre.names.getD i "") ?_ _
  cases o with
  | none => rw [show m'.outcome = some .failed from f]; exact wpAny_pure (h0 rfl)
  | some p => obtain ⟨a, b⟩ := p; rw [f.1]; exact wpAny_pure (h1 a b rfl f.2.1 f.2.2)
end

/-- a compiled pattern without groups -/
structure RePat (h : Heap) (p : Addr) (code : Array Nat) : Prop where
  obj : ∃ (a b d e : Value) (c : Addr) (oc : Obj) (items : Array Value) (n : Nat), h.get? p = some { cls := .type "re.Pattern", data := .fields #[a, b, .int 0 0, d, e, .ref c, .int 0 0] } ∧ h.get? c = some oc ∧ oc.data = .seq items n ∧ (items.map reRawOf).map (·.toNat) = code ∧ items.size ≤ 100
theorem RePat.keep {h h' : Heap} {p : Addr} {code : Array Nat} (x : RePat h p code) (hk : ∀ a o, h.get? a = some o → h'.get? a = some o) : RePat h' p code := by
  obtain ⟨a, b, d, e, c, oc, items, n, h1, h2, r⟩ := x.obj
  exact ⟨a, b, d, e, c, oc, items, n, hk _ _ h1, hk _ _ h2, r⟩

section
variable {M : Model} {A : Around} {E : Value → Shared → Prop} {s : Shared}
theorem wpAny_reTextOf {x : Str} {t : Tok} {Q : Array Nat × Nat → Shared → Prop} (h : Q (x.cps, 0) s) : wpAny M A (reTextOf (.str x t)) Q E s := by
  show wpAny M A (pure (x.cps, 0)) Q E s
  exact wpAny_pure h
theorem wpAny_reWholeTarget {p : Addr} {code : Array Nat} {x : Str} {t : Tok} {Q : ReTarget → Shared → Prop} (hp : RePat s.heap p code)
    (h : Q { pattern := .ref p, string := .str x t, code := code, text := x.cps, kind := 0, groups := 0, pos := 0, lim := x.cps.size } s) : wpAny M A (reWholeTarget (.ref p) (.str x t)) Q E s := by
  obtain ⟨a, b, d, e, c, oc, items, n, h1, h2, h3, h4, h5⟩ := hp.obj
  unfold reWholeTarget
  refine wpAny_bind (wpAny_fieldsOf h1 rfl ?_)
  refine wpAny_bind (wpAny_reTextOf ?_)
  show wpAny M A (reRawItems (.ref c) >>= _) Q E s
  unfold reRawItems
  refine wpAny_bind (wpAny_bind (wpAny_seqItems h2 h3 (wpAny_pure (wpAny_pure ?_))))
  rw [← h4] at h
  exact h
end
end Mine
end
section
open PySem PySem.W PyProof.Rows PySem.Calls
namespace Mine
open Builtin.Re Builtin.Str

noncomputable def flat (ps : List Str) : List Nat := (ps.map (·.cps.toList)).flatten
theorem glue0 : ∀ (rest : List Str) (acc : Array Nat), (rest.foldl (fun acc p => acc ++ (#[] : Array Nat) ++ p.cps) acc).toList = acc.toList ++ flat rest
  | [], acc => by simp [flat]
  | x :: rest, acc => by
    rw [List.foldl_cons, glue0 rest]
    simp [flat]
theorem join0 (ps : List Str) : Txt.join ⟨#[]⟩ ps = ⟨(flat ps).toArray⟩ := by
  show (⟨_⟩ : Str) = ⟨_⟩
  congr 1
  apply Array.toList_inj.mp
  cases ps with
  | nil => rfl
  | cons x rest =>
    show (rest.foldl (fun acc p => acc ++ (#[] : Array Nat) ++ p.cps) x.cps).toList = _
    rw [glue0]; simp [flat]
theorem foldLen : ∀ (ps : List Str) (k : Nat), ps.foldl (· + ·.length + (⟨#[]⟩ : Str).length) k = k + (flat ps).length
  | [], k => by simp [flat]
  | x :: ps, k => by
    rw [List.foldl_cons, foldLen ps]
    simp [flat, Str.length]; omega
theorem joinOk0 {ps : List Str} (h : (flat ps).length ≤ sizeLine) : JoinOk ⟨#[]⟩ ps = true := by
  unfold JoinOk tooLong
  rw [List.foldl_toArray, foldLen]
  simp; omega
theorem flat_snoc (ps : List Str) (x : Str) : flat (ps ++ [x]) = flat ps ++ x.cps.toList := by simp [flat]

theorem plain_sub_loop : plainId "re.Pattern.sub.loop" = true := by decide +kernel
theorem entry_sub_loop : entryFor table "re.Pattern.sub.loop" = some Builtin.«re.Pattern.sub.loop» := entryFor_of_fast (by kernel_rfl)
theorem entry_sub : entryFor table "re.Pattern.sub" = some Builtin.«re.Pattern.sub» := entryFor_of_fast (by kernel_rfl)

/-- what a substitution gives -/
noncomputable def subL (text rp : List Nat) (find : Nat → Option (Nat × Nat)) : Nat → Nat → List Nat
  | 0, i => text.drop i
  | f + 1, i => match find i with
    | none => text.drop i
    | some (a, b) => (text.take a).drop i ++ rp ++ subL text rp find f b

theorem codeAny_subLoop {prog : Program} {w : World} {A : Around} {hT : Heap} {p P : Addr} {code : Array Nat} {x rp : Str} {tx tr : Tok} {N : Nat} {find : Nat → Option (Nat × Nat)} {R : Result → Shared → Prop} (hp : RePat hT p code) (hP : hT.get? P = none)
    (S : ∀ i, i ≤ x.cps.size → ∃ m, Goes N (Sre.forSearch code x.cps 0 i x.cps.size false) m ∧ Found m (find i)) (hN : N + 1 ≤ 4 * 2 ^ 64) (hf : ∀ i a b, find i = some (a, b) → i ≤ a ∧ a < b ∧ b ≤ x.cps.size)
    (hx : x.cps.size ≤ 1000) (hrp : rp.length ≤ 2) :
    ∀ (f i : Nat) (s : Shared) (ps : List (Str × Tok)) (nn : Int) (cnt : Nat), x.cps.size - i < f → i ≤ x.cps.size → Kp hT s.heap → s.heap.get? P = some (lstO (strValues ps) cnt) → ps.length ≤ 2 * i → (flat (ps.map (·.1))).length ≤ 3 * i →
      (∀ t' s', KB [P] [] s s' → R (.ok (.ret (.str ⟨(flat (ps.map (·.1)) ++ subL x.cps.toList rp.cps.toList find f i).toArray⟩ t'))) s') →
      codeAny (model prog w) A (.builtin "re.Pattern.sub.loop" ⟨[.ref p, .str x tx, .str rp tr, rawInt 0, rawInt 0, rawInt nn, rawInt i, rawInt i, .bool false, .ref P, .bool false], []⟩) R s := by
  intro f
  induction f with
  | zero => intro i s ps nn cnt h; omega
  | succ f ih =>
    intro i s ps nn cnt hfu hi hK hL hlen hfl hR
    refine codeAny_builtin entry_sub_loop ?_
    rw [Around.under_plainId plain_sub_loop _]
    have hne : P ≠ p := fun e => by
      obtain ⟨a, b, d, e', c, oc, items, n, h1, _⟩ := hp.obj
      rw [e, h1] at hP; cases hP
    show wpAny _ A.in1 (reWholeTarget (.ref p) (.str x tx) >>= _) _ _ s
    refine wpAny_bind (wpAny_reWholeTarget (hp.keep hK) ?_)
    obtain ⟨m, g, fd⟩ := S i hi
    show wpAny _ A.in1 (reNextFound { pattern := .ref p, string := .str x tx, code := code, text := x.cps, kind := 0, groups := 0, pos := 0, lim := x.cps.size } ((i : Int).toNat) false >>= _) _ _ s
    rw [Int.toNat_natCast]
    have hupd : ∀ (s₁ : Shared) (ps₁ : List (Str × Tok)) (cnt₁ : Nat) (y : Str) (ty : Tok) (Q : Unit → Shared → Prop) (E : Value → Shared → Prop), s₁.heap.get? P = some (lstO (strValues ps₁) cnt₁) → ps₁.length ≤ 3000 →
        (∀ s₂ cnt₂, KB [P] [] s₁ s₂ → s₂.heap.get? P = some (lstO (strValues (ps₁ ++ [(y, ty)])) cnt₂) → Q () s₂) → wpAny (model prog w) A.in1 (updateSeq P (fun z => z.push (.str y ty))) Q E s₁ := fun s₁ ps₁ cnt₁ y ty Q E ho hl h => by
      have hz : (strValues ps₁).toArray.size ≤ 3000 := by simpa [strValues] using hl
      have hex : ∃ cnt₂, Obj.mapSeq (fun z => z.push (.str y ty)) (lstO (strValues ps₁) cnt₁) = lstO (strValues (ps₁ ++ [(y, ty)])) cnt₂ := by
        have e : (strValues (ps₁ ++ [(y, ty)])).toArray = (strValues ps₁).toArray.push (.str y ty) := by simp [strValues]
        refine ⟨if ((strValues ps₁).toArray.push (.str y ty)).size == (strValues ps₁).toArray.size then cnt₁ else cnt₁ + 1, ?_⟩
        show _ = ({ cls := .type "list", data := .seq (strValues (ps₁ ++ [(y, ty)])).toArray _ } : Obj)
        rw [e]; rfl
      obtain ⟨cnt₂, hex⟩ := hex
      refine wpAny_updateSeq ho rfl (h _ cnt₂ (KB.of fun a o ha e => (Heap.get?_update_other _ _ (fun q => ha (by rw [q]; simp))).trans e) ((Heap.get?_update_self _ ho rfl).trans (congrArg some hex))) (Nat.le_trans hz (by decide)) (by
        have : ((strValues ps₁).toArray.push (.str y ty)).size = (strValues ps₁).toArray.size + 1 := Array.size_push ..
        rw [this]; exact Nat.succ_le_succ (Nat.le_trans hz (by decide)))
    refine wpAny_bind (wpAny_reRunToEnd g hN fd (fun a b hfi ha hb => ?_) (fun hfi => ?_))
    · obtain ⟨h1, h2, h3⟩ := hf i a b hfi
      have hmust : (m.handed == m.start) = false := by rw [ha, hb]; simp; omega
      have hsub : subL x.cps.toList rp.cps.toList find (f + 1) i = (x.cps.toList.take a).drop i ++ rp.cps.toList ++ subL x.cps.toList rp.cps.toList find f b := by simp only [subL, hfi]
      have rest : ∀ (s₁ : Shared) (ps₁ : List (Str × Tok)) (cnt₁ : Nat), KB [P] [] s s₁ → s₁.heap.get? P = some (lstO (strValues ps₁) cnt₁) → flat (ps₁.map (·.1)) = flat (ps.map (·.1)) ++ (x.cps.toList.take a).drop i → ps₁.length ≤ ps.length + 1 →
          wpAny (model prog w) A.in1 (updateSeq P (fun z => z.push (.str rp tr)) >>= fun _ => again (.builtin "re.Pattern.sub.loop" ⟨[.ref p, .str x tx, .str rp tr, rawInt 0, rawInt 0, rawInt (nn + 1), rawInt m.handed, rawInt m.handed, .bool (m.handed == m.start), .ref P, .bool false], []⟩))
            (fun fin s' => match fin with | .done f => R (.ok f) s' | .again c' => c'.quiet = true ∧ codeAny (model prog w) A c' R s') (fun e s' => R (.error e) s') s₁ := fun s₁ ps₁ cnt₁ k₁ hL₁ hfl₁ hlen₁ => by
        refine wpAny_bind (hupd s₁ ps₁ cnt₁ rp tr _ _ hL₁ (by omega) fun s₂ cnt₂ k₂ hL₂ => ?_)
        refine wpAny_pure ⟨plainId_quiet plain_sub_loop _, ?_⟩
        rw [hmust, hb]
        have hK₂ : Kp hT s₂.heap := fun c o e => (k₁.trans k₂).keep c o (fun q => by rw [List.mem_singleton.mp q, hP] at e; cases e) (hK c o e)
        have hfl₂ : flat ((ps₁ ++ [(rp, tr)]).map (·.1)) = flat (ps.map (·.1)) ++ (x.cps.toList.take a).drop i ++ rp.cps.toList := by
          rw [List.map_append, List.map_cons, List.map_nil, flat_snoc, hfl₁]
        refine ih b s₂ (ps₁ ++ [(rp, tr)]) (nn + 1) cnt₂ (by omega) h3 hK₂ hL₂ (by simp; omega) ?_ fun t' s' k₃ => ?_
        · rw [hfl₂]
          have : rp.cps.toList.length ≤ 2 := hrp
          have h4 : ((x.cps.toList.take a).drop i).length ≤ a - i := by simp; omega
          simp only [List.length_append]; omega
        · have := hR t' s' ((k₁.trans k₂).trans k₃)
          rw [hsub] at this
          rw [hfl₂]
          simpa only [List.append_assoc] using this
      by_cases hlt : i < m.start
      · show wpAny _ A.in1 (if i < m.start then (reSlice x.cps 0 i m.start >>= fun v => updateSeq P (fun z => z.push v) >>= fun _ => _) else _) _ _ s
        rw [if_pos hlt]
        have hsl : (x.cps.extract i m.start).toList = (x.cps.toList.take a).drop i := by rw [ha]; simp [Array.toList_extract, List.extract_eq_take_drop, List.drop_take]
        refine wpAny_bind (m := reSlice x.cps 0 i m.start) (wpAny_mkStr ?_ (by
          have h5 : (x.cps.extract i m.start).size ≤ 1000 := by rw [← Array.length_toList, hsl]; simp; omega
          exact Nat.le_trans h5 (by decide)))
        refine wpAny_bind (hupd _ ps cnt ⟨x.cps.extract i m.start⟩ s.toks _ _ hL (by omega) fun s₁ cnt₁ k₁ hL₁ => ?_)
        exact rest s₁ _ cnt₁ (KB.trans (KB.of (s := s) (h' := s.heap) (tk := s.toks + 1) fun _ _ _ e => e) k₁) hL₁ (by rw [List.map_append, List.map_cons, List.map_nil, flat_snoc, hsl]) (by simp)
      · show wpAny _ A.in1 (if i < m.start then _ else _) _ _ s
        rw [if_neg hlt]
        have hia : i = a := by omega
        exact rest s ps cnt KB.refl hL (by rw [hia]; simp) (by omega)
    · have hsub : subL x.cps.toList rp.cps.toList find (f + 1) i = x.cps.toList.drop i := by simp only [subL, hfi]
      have rest : ∀ (s₁ : Shared) (ps₁ : List (Str × Tok)) (cnt₁ : Nat), KB [P] [] s s₁ → s₁.heap.get? P = some (lstO (strValues ps₁) cnt₁) → flat (ps₁.map (·.1)) = flat (ps.map (·.1)) ++ x.cps.toList.drop i →
          wpAny (model prog w) A.in1 (reSlice x.cps 0 0 0 >>= fun joiner => seqItems? (.ref P) >>= fun its => if (its.getD #[]).isEmpty = true then (pure joiner >>= fun text => ret text) else (call (.builtin "str.join") [joiner, .ref P] >>= fun text => ret text))
            (fun fin s' => match fin with | .done f => R (.ok f) s' | .again c' => c'.quiet = true ∧ codeAny (model prog w) A c' R s') (fun e s' => R (.error e) s') s₁ := fun s₁ ps₁ cnt₁ k₁ hL₁ hfl₁ => by
        have he : (x.cps.extract 0 0) = #[] := by simp
        refine wpAny_bind (m := reSlice x.cps 0 0 0) (wpAny_mkStr ?_ (by show (x.cps.extract 0 0).size ≤ _; rw [he]; decide))
        rw [he]
        refine wpAny_bind (wpAny_seqItems hL₁ rfl ?_)
        have fin : ∀ t' k, R (.ok (.ret (.str ⟨(flat (ps₁.map (·.1))).toArray⟩ t'))) { s₁ with toks := k } := fun t' k => by
          have := hR t' { s₁ with toks := k } (k₁.trans (KB.of (s := s₁) (h' := s₁.heap) (tk := k) fun _ _ _ e => e))
          rw [hsub, ← hfl₁] at this
          exact this
        cases ps₁ with
        | nil => exact wpAny_bind (wpAny_pure (wpAny_pure (fin _ _)))
        | cons q ps₂ =>
          refine wpAny_bind (SC.join (l := q :: ps₂) ⟨_, hL₁, rfl, _, rfl⟩ rfl (joinOk0 ?_) fun t' k => ?_)
          · have h6 : (x.cps.toList.drop i).length ≤ 1000 := by simp; omega
            rw [hfl₁, List.length_append]
            exact Nat.le_trans (Nat.add_le_add (Nat.le_trans hfl (Nat.mul_le_mul_left 3 (Nat.le_trans hi hx))) h6) (by decide)
          · rw [join0]
            exact wpAny_pure (fin _ _)
      by_cases hlt : i < x.cps.size
      · show wpAny _ A.in1 (if i < x.cps.size then (reSlice x.cps 0 i x.cps.size >>= fun v => updateSeq P (fun z => z.push v) >>= fun _ => _) else _) _ _ s
        rw [if_pos hlt]
        have hsl : (x.cps.extract i x.cps.size).toList = x.cps.toList.drop i := by
          rw [Array.toList_extract, List.extract_eq_take_drop]; exact List.take_of_length_le (by simp)
        refine wpAny_bind (m := reSlice x.cps 0 i x.cps.size) (wpAny_mkStr ?_ (by
          have h5 : (x.cps.extract i x.cps.size).size ≤ 1000 := by rw [← Array.length_toList, hsl]; simp; omega
          exact Nat.le_trans h5 (by decide)))
        refine wpAny_bind (hupd _ ps cnt ⟨x.cps.extract i x.cps.size⟩ s.toks _ _ hL (by omega) fun s₁ cnt₁ k₁ hL₁ => ?_)
        exact rest s₁ _ cnt₁ (KB.trans (KB.of (s := s) (h' := s.heap) (tk := s.toks + 1) fun _ _ _ e => e) k₁) hL₁ (by rw [List.map_append, List.map_cons, List.map_nil, flat_snoc, hsl])
      · show wpAny _ A.in1 (if i < x.cps.size then _ else _) _ _ s
        rw [if_neg hlt]
        exact rest s ps cnt KB.refl hL (by rw [List.drop_of_length_le (by simp; omega)]; simp)
end Mine
end
section
open PySem PySem.W PyProof.Rows PySem.Calls
set_option maxRecDepth 100000
namespace Mine
open Builtin.Re Builtin.Str PySem.F

theorem named_sub (a b : Value) : reNamed "re.Pattern.sub" "sub" ["repl", "string", "count"] 2 [a, b] [] = pure [some a, some b, none] := by
  kernel_rfl
theorem plainAttrs_re : PlainAttrs "re.Pattern" :=
  ⟨⟨"object.__getattribute__", by rw [typeLookup_type, builtinLookup_eq_fast]; kernel_rfl, by decide +kernel⟩, by rw [typeLookup_type, builtinLookup_eq_fast]; kernel_rfl⟩
theorem nocall_str : typeLookup (.type "str") "__call__" = pure none := by rw [typeLookup_type, builtinLookup_eq_fast]; kernel_rfl
theorem slot_re_sub : Slot "re.Pattern" "sub" "re.Pattern.sub" :=
  .of (owner := "re.Pattern") (n := "sub") (by rw [typeLookup_type, builtinLookup_eq_fast]; kernel_rfl) (by decide +kernel) (by decide +kernel) (by decide +kernel)
    (by first | exact .inl (by decide +kernel) | exact .inr (by decide +kernel)) (by rw [isSubtype_type]; kernel_rfl)
theorem type_re_sub : typeOf (.builtin "re.Pattern.sub") = pure (.type "method_descriptor") := by show builtinType _ = _; rw [builtinType_eq_fast]; kernel_rfl
theorem owner_re : Manifest.owners.lookup (String.ofList ['n', 'r', 'e', 't', 't', 'a', 'P', '.', 'e', 'r'].reverse) = some Manifest.sig_re_Pattern := by kernel_rfl
theorem args_re_sub_3 (a b c : Value) : argsOk "re.Pattern.sub" ⟨[a, b, c], []⟩ := by
  unfold argsOk; rw [signature?_of (id := "re.Pattern.sub") (n := ['b', 'u', 's']) (o := ['n', 'r', 'e', 't', 't', 'a', 'P', '.', 'e', 'r']) (by kernel_rfl) owner_re]; kernel_rfl

/-- a substitution without groups -/
theorem call_sub {prog : Program} {w : World} {A : Around} {hT : Heap} {p : Addr} {code : Array Nat} {x rp : Str} {tx tr : Tok} {N : Nat} {find : Nat → Option (Nat × Nat)} {s : Shared} {E : Value → Shared → Prop} {Q : Value → Shared → Prop} (hp : RePat hT p code) (hK : Kp hT s.heap)
    (S : ∀ i, i ≤ x.cps.size → ∃ m, Goes N (Sre.forSearch code x.cps 0 i x.cps.size false) m ∧ Found m (find i)) (hN : N + 1 ≤ 4 * 2 ^ 64) (hf : ∀ i a b, find i = some (a, b) → i ≤ a ∧ a < b ∧ b ≤ x.cps.size)
    (hx : x.cps.size ≤ 1000) (hrp : rp.length ≤ 2) (h92 : rp.cps.contains 92 = false)
    (h : ∀ t' s', Ext s s' → Q (.str ⟨(subL x.cps.toList rp.cps.toList find (x.cps.size + 1) 0).toArray⟩ t') s') : wpAny (model prog w) A (call (.builtin "re.Pattern.sub") [.ref p, .str rp tr, .str x tx]) Q E s := by
  have hty : s.TypeIs (.ref p) "re.Pattern" := by
    obtain ⟨a, b, d, e', c, oc, items, n, h1, _⟩ := (hp.keep hK).obj
    exact ⟨_, h1, rfl⟩
  refine wpAny_call (codeAny_call_builtin slot_re_sub.plain entry_sub (slot_re_sub.check _ _ _ _ _ _ _ _ hty (args_re_sub_3 _ _ _) ?_))
  show wpAny _ A.in1 (reNamed "re.Pattern.sub" "sub" ["repl", "string", "count"] 2 [.str rp tr, .str x tx] [] >>= _) _ _ s
  rw [named_sub]
  refine wpAny_bind (wpAny_pure ?_)
  refine wpAny_bind (m := (pure (0 : Int) : Sem Int)) (wpAny_pure ?_)
  refine wpAny_bind (wpAny_specialOf (typeIs_str _ _ _) nocall_str ?_)
  refine wpAny_bind (m := asStr? (.str rp tr)) (wpAny_pure ?_)
  refine wpAny_bind (m := (pure (!rp.cps.contains 92) : Sem Bool)) (wpAny_pure ?_)
  rw [h92]
  refine wpAny_bind (m := (pure (Value.str rp tr, (0 : Int)) : Sem (Value × Int))) (wpAny_pure ?_)
  refine wpAny_bind (wpAny_holding (wpAny_reWholeTarget (hp.keep hK) ?_))
  refine wpAny_bind (wpAny_newList (items := []) ?_)
  refine wpAny_pure ⟨plainId_quiet plain_sub_loop _, ?_⟩
  have hPn : hT.get? s.heap.objs.size = none := by
    cases e : hT.get? s.heap.objs.size with
    | none => rfl
    | some o => have := hK _ o e; rw [get_size] at this; cases this
  have e1 : Ext s { s with heap := s.heap.push (lstO [] 0) } := Ext.push
  refine codeAny_subLoop hp hPn S hN hf hx hrp (x.cps.size + 1) 0 _ [] 0 0 (by omega) (Nat.zero_le _) (hK.ext e1.k) (Heap.get?_push_size _ rfl) (by simp) (by simp [flat]) fun t' s' k => ?_
  refine h t' s' (KB.new e1 k (fun a ha => .inr ?_) fun g hg => nomatch hg)
  rw [List.mem_singleton.mp ha]; exact get_size

/-- a method of a compiled pattern -/
theorem evSub {C : Cx} {vals : List VV} {nm : Str} {np apos pos : Pos} {e1 e2 : Expr} {p : Addr} {code : Array Nat} {x rp : Str} {N : Nat} {find : Nat → Option (Nat × Nat)}
    (g : GV (vals := vals) C nm (.ref p)) (hp : RePat C.hT p code) (y1 : Ev C vals e1 (.str rp)) (y2 : Ev C vals e2 (.str x))
    (S : ∀ i, i ≤ x.cps.size → ∃ m, Goes N (Sre.forSearch code x.cps 0 i x.cps.size false) m ∧ Found m (find i)) (hN : N + 1 ≤ 4 * 2 ^ 64) (hf : ∀ i a b, find i = some (a, b) → i ≤ a ∧ a < b ∧ b ≤ x.cps.size)
    (hx : x.cps.size ≤ 1000) (hrp : rp.length ≤ 2) (h92 : rp.cps.contains 92 = false)
    (hbase : attributeBase (.Name nm np) "sub" C.env (eval (.Name nm np) C.env) = eval (.Name nm np) C.env := by rfl)
    (hfew : ((backTo pos (starEach [e1, e2] C.env)).all (fun x => !x.1) && (backToKw pos (keywordEach [] C.env)).all (fun x => x.1.isSome) && decide ([e1, e2].length + ([] : List Keyword).length + (if ([] : List Keyword).isEmpty then 0 else 1) < 30)) = true := by rfl)
    (hline : (apos.endLine == pos.line) = true := by rfl)
    (he : starEach [e1, e2] C.env = (false, eval e1 C.env) :: starEach [e2] C.env := by rfl) (he2 : starEach [e2] C.env = (false, eval e2 C.env) :: starEach [] C.env := by rfl) (hplain : (backTo pos (starEach [e2] C.env)).any (·.1) = false := by rfl) :
    Ev C vals (.Call (.Attribute (.Name nm np) "sub" apos) [e1, e2] [] pos) (.str ⟨(subL x.cps.toList rp.cps.toList find (x.cps.size + 1) 0).toArray⟩) := .mk fun X s E Q F h => by
  refine wpAny_Call_method hbase hfew hline plainAttrs_re slot_re_sub type_re_sub (g.go np X s E _ F ⟨?_, fun b e => ?_, ?_⟩)
  · obtain ⟨a, b, d, e', c, oc, items, n, h1, _⟩ := (hp.keep F.kp).obj
    exact ⟨_, h1, rfl⟩
  · cases e
    obtain ⟨a, b, d, e', c, oc, items, n, h1, _⟩ := (hp.keep F.kp).obj
    exact ⟨_, h1, rfl⟩
  · refine callWith_method1 ((EvL.cons y1 (EvL.cons y2 EvL.nil he2) he).go pos X s E _ F fun vs s₂ e₂ r₂ => ?_) he hplain
    cases r₂ with | cons r1 r' =>
    cases r' with | cons r2 r'' =>
    cases r''
    cases r1
    cases r2
    exact call_sub hp (F.kp.ext e₂.k) S hN hf hx hrp h92 fun t' s' k => h _ _ (e₂.trans k) (.str _ _)
end Mine
end
section
open PySem PySem.W PyProof.Rows PySem.Calls
namespace Mine

theorem drop_get (text : Array Nat) {i : Nat} (h : i < text.size) : text.toList.drop i = text.getD i 0 :: text.toList.drop (i + 1) := by
  rw [List.drop_eq_getElem_cons (by simpa using h)]
  congr 1
  simp [Array.getD, h]

/-- dots at the lines' starts doubled -/
noncomputable def dotted : Bool → List Nat → List Nat
  | _, [] => []
  | b, c :: r => if b && c == 46 then 46 :: 46 :: dotted false r else c :: dotted (c == 10) r
/-- every line end made \r\n -/
noncomputable def normed : List Nat → List Nat
  | [] => []
  | [c] => if c == 10 || c == 13 then [13, 10] else [c]
  | c :: d :: r => if c == 10 || c == 13 then 13 :: 10 :: (if c == 13 && d == 10 then normed r else normed (d :: r)) else c :: normed (d :: r)

noncomputable abbrev fnd1 (text : Array Nat) : Nat → Option (Nat × Nat) := fun i => (find1 text (text.size - i) i).map fun j => (j, j + 1)
noncomputable abbrev fnd2 (text : Array Nat) : Nat → Option (Nat × Nat) := fun i => (find2 text (text.size - i) i).map fun j => (j, len2 text j)

theorem find1_spec (text : Array Nat) : ∀ (d s i : Nat), find1 text d s = some i → s ≤ i ∧ i < s + d := by
  intro d
  induction d with
  | zero => intro s i h; cases h
  | succ d ih =>
    intro s i h
    unfold find1 at h
    split at h
    · cases h; exact ⟨Nat.le_refl _, by omega⟩
    · obtain ⟨a, b⟩ := ih (s + 1) i h
      exact ⟨by omega, by omega⟩
theorem fnd1_ok (text : Array Nat) (i a b : Nat) (h : fnd1 text i = some (a, b)) : i ≤ a ∧ a < b ∧ b ≤ text.size := by
  unfold fnd1 at h
  cases hf : find1 text (text.size - i) i with
  | none => rw [hf] at h; cases h
  | some j => rw [hf] at h; cases h; have := find1_spec text _ _ _ hf; omega
theorem len2_le (text : Array Nat) {i : Nat} (h : i < text.size) : i < len2 text i ∧ len2 text i ≤ text.size := by
  by_cases hc : text.getD i 0 = 13 ∧ (i + 1 < text.size ∧ text.getD (i + 1) 0 = 10)
  · have e : len2 text i = i + 2 := if_pos hc
    rw [e]; omega
  · have e : len2 text i = i + 1 := if_neg hc
    rw [e]; omega
theorem fnd2_ok (text : Array Nat) (i a b : Nat) (h : fnd2 text i = some (a, b)) : i ≤ a ∧ a < b ∧ b ≤ text.size := by
  unfold fnd2 at h
  cases hf : find2 text (text.size - i) i with
  | none => rw [hf] at h; cases h
  | some j =>
    rw [hf] at h; cases h
    have := find2_spec text _ _ _ hf
    have := len2_le text (i := a) (by omega)
    omega

/-- a place that does not match -/
theorem subL_skip {text : Array Nat} {rp : List Nat} {find : Nat → Option (Nat × Nat)} (hf : ∀ i a b, find i = some (a, b) → i ≤ a ∧ a < b ∧ b ≤ text.size) {i : Nat} (h : i < text.size) (e : find i = find (i + 1)) (f : Nat) :
    subL text.toList rp find (f + 1) i = text.getD i 0 :: subL text.toList rp find (f + 1) (i + 1) := by
  simp only [subL, e]
  cases hfi : find (i + 1) with
  | none => exact drop_get text h
  | some ab =>
    obtain ⟨a, b⟩ := ab
    have := hf _ _ _ hfi
    have e2 : (text.toList.take a).drop i = text.getD i 0 :: (text.toList.take a).drop (i + 1) := by
      rw [List.drop_eq_getElem_cons (by simp; omega)]
      congr 1
      simp [Array.getD, h]
    simp only [e2, List.cons_append]

theorem sub1 (text : Array Nat) : ∀ (d i f : Nat), i + d = text.size → d < f → subL text.toList [46, 46] (fnd1 text) f i = dotted (bol text i) (text.toList.drop i) := by
  intro d
  induction d with
  | zero =>
    intro i f hd hf
    obtain ⟨f, rfl⟩ : ∃ f', f = f' + 1 := ⟨f - 1, by omega⟩
    have e : fnd1 text i = none := by unfold fnd1; rw [show text.size - i = 0 by omega]; rfl
    simp only [subL, e]
    rw [List.drop_of_length_le (by simp; omega)]; rfl
  | succ d ih =>
    intro i f hd hf
    obtain ⟨f, rfl⟩ : ∃ f', f = f' + 1 := ⟨f - 1, by omega⟩
    have hi : i < text.size := by omega
    have hb1 : bol text (i + 1) = (text.getD i 0 == 10) := by simp [bol]
    rw [drop_get text hi]
    cases hb : bol text i && text.getD i 0 == 46 with
    | true =>
      have e : fnd1 text i = some (i, i + 1) := by
        unfold fnd1; rw [show text.size - i = d + 1 by omega]; simp only [find1, hb, if_true, Option.map]
      have h46 : text.getD i 0 = 46 := by rw [Bool.and_eq_true] at hb; exact beq_iff_eq.mp hb.2
      have e2 : (text.toList.take i).drop i = [] := by simp
      simp only [subL, e, e2, dotted, hb, if_true]
      rw [ih (i + 1) f (by omega) (by omega), hb1, h46]; rfl
    | false =>
      have e : fnd1 text i = fnd1 text (i + 1) := by
        unfold fnd1; rw [show text.size - i = d + 1 by omega, show text.size - (i + 1) = d by omega]
        simp only [find1, hb, Bool.false_eq_true, if_false]
      rw [subL_skip (fnd1_ok text) hi e f, ih (i + 1) (f + 1) (by omega) (by omega), hb1]
      simp only [dotted, hb, Bool.false_eq_true, if_false]

theorem sub2 (text : Array Nat) : ∀ (n d i f : Nat), d ≤ n → i + d = text.size → d < f → subL text.toList [13, 10] (fnd2 text) f i = normed (text.toList.drop i) := by
  intro n
  induction n with
  | zero =>
    intro d i f hdn hd hf
    obtain ⟨f, rfl⟩ : ∃ f', f = f' + 1 := ⟨f - 1, by omega⟩
    have e : fnd2 text i = none := by unfold fnd2; rw [show text.size - i = 0 by omega]; rfl
    simp only [subL, e]
    rw [List.drop_of_length_le (by simp; omega)]; rfl
  | succ n ih =>
    intro d i f hdn hd hf
    rcases Nat.eq_zero_or_pos d with h0 | hpos
    · exact ih d i f (by omega) hd hf
    obtain ⟨f, rfl⟩ : ∃ f', f = f' + 1 := ⟨f - 1, by omega⟩
    obtain ⟨d, rfl⟩ : ∃ d', d = d' + 1 := ⟨d - 1, by omega⟩
    have hi : i < text.size := by omega
    cases hb : text.getD i 0 == 10 || text.getD i 0 == 13 with
    | true =>
      have e : fnd2 text i = some (i, len2 text i) := by
        unfold fnd2; rw [show text.size - i = d + 1 by omega]; simp only [find2, hb, if_true, Option.map]
      have e2 : (text.toList.take i).drop i = [] := by simp
      have hl := len2_le text hi
      have e3 := ih (text.size - len2 text i) (len2 text i) f (by omega) (by omega) (by omega)
      simp only [subL, e, e2, List.nil_append]
      rw [e3, drop_get text hi]
      by_cases hi1 : i + 1 < text.size
      · rw [drop_get text hi1]
        simp only [normed, hb, if_true]
        by_cases hc : text.getD i 0 = 13 ∧ (i + 1 < text.size ∧ text.getD (i + 1) 0 = 10)
        · have hl2 : len2 text i = i + 2 := if_pos hc
          rw [hl2, hc.1, hc.2.2]; rfl
        · have hl2 : len2 text i = i + 1 := if_neg hc
          have hq : (text.getD i 0 == 13 && text.getD (i + 1) 0 == 10) = false := by
            cases hq : (text.getD i 0 == 13 && text.getD (i + 1) 0 == 10) with
            | false => rfl
            | true => rw [Bool.and_eq_true] at hq; exact absurd ⟨beq_iff_eq.mp hq.1, hi1, beq_iff_eq.mp hq.2⟩ hc
          rw [hl2, hq, drop_get text hi1]; rfl
      · have hl2 : len2 text i = i + 1 := if_neg (fun q => hi1 q.2.1)
        rw [hl2, List.drop_of_length_le (i := i + 1) (by simp; omega)]
        simp only [normed, hb, if_true]; rfl
    | false =>
      have e : fnd2 text i = fnd2 text (i + 1) := by
        unfold fnd2; rw [show text.size - i = d + 1 by omega, show text.size - (i + 1) = d by omega]
        simp only [find2, hb, Bool.false_eq_true, if_false]
      rw [subL_skip (fnd2_ok text) hi e f, ih d (i + 1) (f + 1) (by omega) (by omega) (by omega), drop_get text hi]
      by_cases hi1 : i + 1 < text.size
      · rw [drop_get text hi1]; simp only [normed, hb, Bool.false_eq_true, if_false]
      · rw [List.drop_of_length_le (i := i + 1) (by simp; omega)]
        simp only [normed, hb, Bool.false_eq_true, if_false]

section
variable {C : Cx} {vals : List VV} {nm : Str} {np apos pos : Pos} {e1 e2 : Expr} {p : Addr} {x : Str}
theorem Ev.norm (g : GV (vals := vals) C nm (.ref p)) (hp : RePat C.hT p code2) (y1 : Ev C vals e1 (.str ⟨#[13, 10]⟩)) (y2 : Ev C vals e2 (.str x)) (hx : x.cps.size ≤ 1000)
    (hbase : attributeBase (.Name nm np) "sub" C.env (eval (.Name nm np) C.env) = eval (.Name nm np) C.env := by rfl)
    (hfew : ((backTo pos (starEach [e1, e2] C.env)).all (fun x => !x.1) && (backToKw pos (keywordEach [] C.env)).all (fun x => x.1.isSome) && decide ([e1, e2].length + ([] : List Keyword).length + (if ([] : List Keyword).isEmpty then 0 else 1) < 30)) = true := by rfl)
    (hline : (apos.endLine == pos.line) = true := by rfl)
    (he : starEach [e1, e2] C.env = (false, eval e1 C.env) :: starEach [e2] C.env := by rfl) (he2 : starEach [e2] C.env = (false, eval e2 C.env) :: starEach [] C.env := by rfl) (hplain : (backTo pos (starEach [e2] C.env)).any (·.1) = false := by rfl) :
    Ev C vals (.Call (.Attribute (.Name nm np) "sub" apos) [e1, e2] [] pos) (.str ⟨(normed x.cps.toList).toArray⟩) := by
  have := evSub (N := 30) g hp y1 y2 (fun i hi => search2 x.cps i hi) (by decide) (fnd2_ok x.cps) hx (by decide) (by decide +kernel) hbase hfew hline he he2 hplain
  rw [sub2 x.cps x.cps.size x.cps.size 0 (x.cps.size + 1) (Nat.le_refl _) (by omega) (by omega)] at this
  exact this
theorem Ev.dots (g : GV (vals := vals) C nm (.ref p)) (hp : RePat C.hT p code1) (y1 : Ev C vals e1 (.str ⟨#[46, 46]⟩)) (y2 : Ev C vals e2 (.str x)) (hx : x.cps.size ≤ 1000)
    (hbase : attributeBase (.Name nm np) "sub" C.env (eval (.Name nm np) C.env) = eval (.Name nm np) C.env := by rfl)
    (hfew : ((backTo pos (starEach [e1, e2] C.env)).all (fun x => !x.1) && (backToKw pos (keywordEach [] C.env)).all (fun x => x.1.isSome) && decide ([e1, e2].length + ([] : List Keyword).length + (if ([] : List Keyword).isEmpty then 0 else 1) < 30)) = true := by rfl)
    (hline : (apos.endLine == pos.line) = true := by rfl)
    (he : starEach [e1, e2] C.env = (false, eval e1 C.env) :: starEach [e2] C.env := by rfl) (he2 : starEach [e2] C.env = (false, eval e2 C.env) :: starEach [] C.env := by rfl) (hplain : (backTo pos (starEach [e2] C.env)).any (·.1) = false := by rfl) :
    Ev C vals (.Call (.Attribute (.Name nm np) "sub" apos) [e1, e2] [] pos) (.str ⟨(dotted true x.cps.toList).toArray⟩) := by
  have := evSub (N := 6 * (x.cps.size + 2)) g hp y1 y2 (fun i hi => search1' x.cps i hi) (by omega) (fnd1_ok x.cps) hx (by decide) (by decide +kernel) hbase hfew hline he he2 hplain
  rw [sub1 x.cps x.cps.size 0 (x.cps.size + 1) (by omega) (by omega)] at this
  exact this
end
end Mine
end
section
open PySem PySem.W PyProof.Rows PySem.Calls
namespace Mine

noncomputable def kasRun {α : Type} (lt : Nat → Nat → Bool) : KasT α → α
  | .ret a => a
  | .ask i j k => kasRun lt (k (lt i j))
noncomputable def kasOK {α : Type} (lt : Nat → Nat → Bool) (n : Nat) : KasT α → Bool
  | .ret a => true
  | .ask i j k => decide (i < n) && decide (j < n) && kasOK lt n (k (lt i j))
theorem kas_go {α : Type} {cmp : Nat → Nat → (Bool → Shared → Prop) → Shared → Prop} {lt : Nat → Nat → Bool} {n : Nat} {s : Shared} {Q : α → Shared → Prop} (hc : ∀ i j C, i < n → j < n → C (lt i j) s → cmp i j C s) : ∀ t : KasT α, kasOK lt n t = true → Q (kasRun lt t) s → t.kasWp cmp Q s
  | .ret a, _, h => h
  | .ask i j k, ho, h => by
    simp only [kasOK, Bool.and_eq_true, decide_eq_true_eq] at ho
    exact hc i j _ ho.1.1 ho.1.2 (kas_go hc (k (lt i j)) ho.2 h)

section
variable {prog : Program} {w : World} {A : Around} {E : Value → Shared → Prop} {s : Shared}
theorem sort_tree {a : Addr} {vs : List Value} {n : Nat} {P : PySem.Fin → Shared → Prop} {p : Array Nat} (ho : s.heap.get? a = some (seqObj "list" vs.toArray n)) (h2 : 2 ≤ vs.length) (h64 : vs.length < 64) (hp : p.size = vs.length)
    (ask : ∀ (h' : Heap) (Q' : Array Nat → Shared → Prop), (∀ b o, b ≠ a → s.heap.get? b = some o → h'.get? b = some o) → Q' p { s with heap := h' } →
      wpAny (model prog w) A (keyKind' vs.toArray) (fun κ s' => (kas_sort vs.length).kasWp (kas_ask prog w A κ vs) Q' s') (fun _ _ => False) { s with heap := h' })
    (h : P (.done (.ret .none)) { s with heap := sortedHeap s.heap a vs (p.toList.map fun i => vs.getD i Value.none).toArray }) :
    wpAny (model prog w) A (Builtin.«list.sort» ⟨[.ref a], []⟩) P E s := by
  rw [list_sort_plain]
  have ha : a < s.heap.objs.size := Heap.lt_size ho
  refine wpAny_bind (listItems_at ho rfl ?_)
  refine wpAny_bind (listUpdate_at ho rfl ?_ (by rw [List.size_toArray, sizeLine_eq]; omega) (Nat.zero_le _))
  obtain ⟨e1, ho1⟩ : ∃ e1, (s.heap.update a (Obj.mapSeq fun _ => #[])).get? a = some (seqObj "list" #[] e1) := ⟨_, get?_update_seq ho (fun _ => #[])⟩
  refine wpAny_bind (seqEpoch_at ho1 rfl ?_)
  refine wpAny_bind (wpAny_newTuple ?_ (by show vs.length ≤ _; rw [sizeLine_eq]; omega))
  refine wpAny_bind (wpAny_newList ?_ (Nat.zero_le _))
  refine wpAny_holding ?_
  have ho6 : (((s.heap.update a (Obj.mapSeq fun _ => #[])).push (seqObj "tuple" vs.toArray 0)).push (seqObj "list" #[] 0)).get? a = some (seqObj "list" #[] e1) := by
    rw [Heap.get?_push_ne _ _ _ (by rw [size_push', Heap.size_update]; exact Nat.ne_of_lt (Nat.lt_succ_of_lt ha)), Heap.get?_push_ne _ _ _ (by rw [Heap.size_update]; exact Nat.ne_of_lt ha)]
    exact ho1
  show wpAny (model prog w) A _ P E { s with heap := ((s.heap.update a (Obj.mapSeq fun _ => #[])).push (seqObj "tuple" vs.toArray 0)).push (seqObj "list" #[] 0) }
  dsimp only
  have hn2 : ¬ vs.toArray.size < 2 := by rw [List.size_toArray]; omega
  rw [if_neg hn2, if_neg hn2]
  have keep : ∀ b o, b ≠ a → s.heap.get? b = some o → (((s.heap.update a (Obj.mapSeq fun _ => #[])).push (seqObj "tuple" vs.toArray 0)).push (seqObj "list" #[] 0)).get? b = some o := fun b o hb e =>
    Heap.get?_push_of_some _ (Heap.get?_push_of_some _ ((Heap.get?_update_other _ _ (Ne.symm hb)).trans e))
  refine wpAny_bind (wpAny_mono (ask _ (fun p' s' => p' = p ∧ s' = { s with heap := ((s.heap.update a (Obj.mapSeq fun _ => #[])).push (seqObj "tuple" vs.toArray 0)).push (seqObj "list" #[] 0) }) keep ⟨rfl, rfl⟩) (fun κ s0 hk => ?_) fun _ _ x => x.elim)
  refine wpAny_bind (wpAny_mono (kat_run (Q := fun st' s' => ∃ p' : Array Nat, arrOf st' = p'.map (kas_item (vs.toArray.zip vs.toArray)) ∧ failedOf st' = none ∧ (p' = p ∧ s' = { s with heap := ((s.heap.update a (Obj.mapSeq fun _ => #[])).push (seqObj "tuple" vs.toArray 0)).push (seqObj "list" #[] 0) }))
    rfl h2 h64 (fun p' st' s' a1 a2 a3 a4 => ⟨p', a2, a3, a4⟩) hk) ?_ fun _ _ e => e)
  rintro ⟨⟨⟩, st'⟩ s' ⟨p', har, hf, rfl, rfl⟩
  dsimp only
  have hout := kat_snds rfl har
  rw [hout]
  refine wpAny_bind (seqEpoch_at ho6 rfl ?_)
  refine wpAny_bind (listUpdate_at ho6 rfl ?_ (Nat.zero_le _) (by rw [List.size_toArray, List.length_map, Array.length_toList, hp, sizeLine_eq]; omega))
  rw [hf]
  simp only [bne_self_eq_false, Bool.false_eq_true, if_false]
  exact wpAny_pure h
theorem sorted_tree {l : Addr} {vs : List Value} {Q : Value → Shared → Prop} {p : Array Nat} (hl : s.heap.IsList l vs.toArray) (h2 : 2 ≤ vs.length) (h64 : vs.length < 64) (hp : p.size = vs.length)
    (ask : ∀ (h' : Heap) (Q' : Array Nat → Shared → Prop), (∀ b o, s.heap.get? b = some o → h'.get? b = some o) → Q' p { s with heap := h' } →
      wpAny (model prog w) A.in1.in1 (keyKind' vs.toArray) (fun κ s' => (kas_sort vs.length).kasWp (kas_ask prog w A.in1.in1 κ vs) Q' s') (fun _ _ => False) { s with heap := h' })
    (h : Q (.ref (s.heap.objs.size + 1)) { s with heap := sortedAll s.heap vs (p.toList.map fun i => vs.getD i Value.none).toArray }) :
    wpAny (model prog w) A (call (.builtin "sorted") [.ref l]) Q E s := by
  refine Calls.call_function_entry kind_sorted plain_sorted entry_sorted (args_sorted1 _) ?_
  unfold Builtin.«sorted»
  refine wpAny_bind (m := checkCount "sorted" 1 1 _) (wpAny_pure ?_)
  refine wpAny_bind (collect_list hl ?_ (by rw [sizeLine_eq]; omega))
  refine wpAny_bind (wpAny_newList ?_ (by rw [sizeLine_eq]; omega))
  have hsz : ((s.heap.push (seqObj "list" #[] 0)).update s.heap.objs.size (Obj.mapSeq (· ++ vs.toArray))).objs.size = s.heap.objs.size + 1 := by
    rw [Heap.size_update, size_push']
  have hoL : (((s.heap.push (seqObj "list" #[] 0)).update s.heap.objs.size (Obj.mapSeq (· ++ vs.toArray))).push (seqObj "list" vs.toArray 0)).get? (s.heap.objs.size + 1) = some (seqObj "list" vs.toArray 0) := by
    rw [← hsz]; exact Heap.get?_push_size _ rfl
  have keep : ∀ b o, s.heap.get? b = some o → (((s.heap.push (seqObj "list" #[] 0)).update s.heap.objs.size (Obj.mapSeq (· ++ vs.toArray))).push (seqObj "list" vs.toArray 0)).get? b = some o ∧ b ≠ s.heap.objs.size + 1 := fun b o q => by
    have hlt : b < s.heap.objs.size := Heap.lt_size q
    rw [Heap.get?_push_ne _ _ _ (by rw [hsz]; exact Nat.ne_of_lt (Nat.lt_succ_of_lt hlt)), Heap.get?_update_ne _ _ _ _ (Nat.ne_of_lt hlt), Heap.get?_push_ne _ _ _ (Nat.ne_of_lt hlt)]
    exact ⟨q, Nat.ne_of_lt (Nat.lt_succ_of_lt hlt)⟩
  show wpAny _ _ _ _ _ { s with heap := ((s.heap.push (seqObj "list" #[] 0)).update s.heap.objs.size (Obj.mapSeq (· ++ vs.toArray))).push (seqObj "list" vs.toArray 0) }
  rw [hsz]
  refine wpAny_bind (wpAny_holding (wpAny_call_entry slot_list_sort ⟨_, hoL, rfl⟩ entry_list_sort (sort_tree (s := { s with heap := ((s.heap.push (seqObj "list" #[] 0)).update s.heap.objs.size (Obj.mapSeq (· ++ vs.toArray))).push (seqObj "list" vs.toArray 0) }) hoL h2 h64 hp (fun h' Q' hk hq => ask h' Q' (fun b o e => hk b o (keep b o e).2 (keep b o e).1) hq) ⟨_, rfl, ?_⟩) (args_list_sort _)))
  exact wpAny_pure ⟨_, rfl, h⟩
end
end Mine
end
section
open PySem PySem.W PyProof.Rows PySem.Calls
namespace Mine

noncomputable abbrev pr (p : Int × Int) : PV := .tup [.int p.1, .int p.2]
noncomputable def prLt (a b : Int × Int) : Bool := if a.1 == b.1 then (if a.2 == b.2 then false else decide (a.2 < b.2)) else decide (a.1 < b.1)
noncomputable def ltOf (ps : List (Int × Int)) (i j : Nat) : Bool := prLt (ps.getD i (0, 0)) (ps.getD j (0, 0))
noncomputable def permOf (ps : List (Int × Int)) : Array Nat := kasRun (ltOf ps) (kas_sort ps.length)

theorem RpL.pairs {X : List Addr} {h : Heap} : ∀ {vs : List Value} {ps : List (Int × Int)}, RpL X h vs (ps.map pr) → ∀ (i : Nat) (p : Int × Int), ps[i]? = some p → ∃ (a : Addr) (t u : Tok) (n : Nat), vs[i]? = some (Value.ref a) ∧ a ∉ X ∧ h.get? a = some (tupO [.int p.1 t, .int p.2 u] n)
  | vs, ps, r, i, p, hp => by
    obtain ⟨v, hv, q⟩ := r.get (k := i) (d := pr p) (by simp [hp])
    cases q with | tup ha ho r' =>
    cases r' with | cons r1 r' =>
    cases r' with | cons r2 r' =>
    cases r'
    cases r1
    cases r2
    rename_i a n t u
    exact ⟨a, t, u, n, hv, ha, ho⟩

theorem tups {X : List Addr} {h : Heap} : ∀ {vs : List Value} {ps : List (Int × Int)}, RpL X h vs (ps.map pr) → ∃ fs, KatTups h vs fs ∧ fs.length = ps.length ∧ ∀ v ∈ fs, ∃ k t, v = Value.int k t
  | [], [], _ => ⟨[], trivial, rfl, fun _ h => nomatch h⟩
  | v :: vs, p :: ps, r => by
    cases r with | cons r1 r2 =>
    obtain ⟨fs, k, hl, hi⟩ := tups r2
    cases r1 with | tup ha ho r' =>
    cases r' with | cons q1 r' =>
    cases r' with | cons q2 r' =>
    cases r'
    cases q1
    rename_i t
    exact ⟨_, KatTups.cons ho rfl rfl rfl k, by simp [hl], fun v hv => by
      rcases List.mem_cons.mp hv with rfl | hv
      · exact ⟨_, t, rfl⟩
      · exact hi v hv⟩
  | [], _ :: _, r => by cases r
  | _ :: _, [], r => by cases r

theorem RpL.perm {X : List Addr} {h : Heap} {ws : List Value} {ps : List (Int × Int)} (r : RpL X h ws (ps.map pr)) : ∀ (is : List Nat) (out : List (Int × Int)), is.map (fun i => ps[i]?) = out.map some → RpL X h (is.map fun i => ws.getD i Value.none) (out.map pr)
  | [], [], _ => .nil
  | [], _ :: _, e => by cases e
  | _ :: _, [], e => by cases e
  | i :: is, o :: out, e => by
    simp only [List.map_cons, List.cons.injEq] at e
    obtain ⟨v, hv, q⟩ := r.get (k := i) (d := pr o) (by simp [e.1])
    have e1 : ws.getD i Value.none = v := by simp [hv]
    exact .cons (by show Rp X h (ws.getD i Value.none) (pr o); rw [e1]; exact q) (r.perm is out e.2)

theorem CallOK.sorted {C : Cx} {ps out : List (Int × Int)} (h2 : 2 ≤ ps.length) (h64 : ps.length < 64) (hok : kasOK (ltOf ps) ps.length (kas_sort ps.length) = true)
    (hp : (permOf ps).size = ps.length) (hout : (permOf ps).toList.map (fun i => ps[i]?) = out.map some) : CallOK C (.builtin "sorted") [.lst (ps.map pr)] (.lst (out.map pr)) := .mk fun X s E Q vs hK hL r h => by
  cases r with | cons r1 r2 =>
  cases r2
  cases r1 with | lst ha ho r =>
  rename_i l ws n
  have hlen : ws.length = ps.length := by rw [r.length]; simp
  refine sorted_tree (p := permOf ps) ⟨_, ho, rfl, _, rfl⟩ (by omega) (by omega) (by omega) (fun h' Q' hk hq => ?_) ?_
  · have r' := r.ext hk
    obtain ⟨fs, kt, hfl, hfi⟩ := tups r'
    refine kat_kind (T := .type "int") kt (by omega) (fun v hv => ?_) rfl ?_
    · obtain ⟨k, t, rfl⟩ := hfi v hv
      exact Looks.of_pure rfl
    · rw [hlen]
      refine kas_go (lt := ltOf ps) (n := ps.length) (fun i j D hi hj hD => ?_) _ hok hq
      obtain ⟨a, t, u, m, hv, _, hoa⟩ := RpL.pairs r' i _ (List.getElem?_eq_getElem hi)
      obtain ⟨b, t', u', m', hv', _, hob⟩ := RpL.pairs r' j _ (List.getElem?_eq_getElem hj)
      unfold kas_ask
      have e1 : ws.getD i Value.none = .ref a := by simp [hv]
      have e2 : ws.getD j Value.none = .ref b := by simp [hv']
      have e3 : ltOf ps i j = prLt ps[i] ps[j] := by simp [ltOf, hi, hj]
      rw [e1, e2]
      refine kat_lt hoa rfl hob rfl (kat_cons (wpAny_eqBool_int (kat_go (fun he => kat_yes (kat_cons (wpAny_eqBool_int (kat_go (fun he2 => kat_yes (kat_nil ?_)) (fun he2 => kat_no ?_))))) (fun he => kat_no ?_))))
      · rw [e3] at hD
        unfold prLt at hD
        rw [if_pos he, if_pos he2] at hD
        exact hD
      · refine kat_one _ _ ?_
        rw [e3] at hD
        unfold prLt at hD
        rw [if_pos he, if_neg (by rw [he2]; exact Bool.false_ne_true)] at hD
        exact PyProof.Rows.lt_int hD
      · refine oneLt_int ?_
        rw [e3] at hD
        unfold prLt at hD
        rw [if_neg (by rw [he]; exact Bool.false_ne_true)] at hD
        exact hD
  · obtain ⟨e, he⟩ := sortedAll_at s.heap ws ((permOf ps).toList.map fun i => ws.getD i Value.none).toArray
    have hk : ∀ b o, s.heap.get? b = some o → (sortedAll s.heap ws ((permOf ps).toList.map fun i => ws.getD i Value.none).toArray).get? b = some o := fun b o q => sortedAll_old q
    have e1 : Ext s { s with heap := sortedAll s.heap ws ((permOf ps).toList.map fun i => ws.getD i Value.none).toArray } := ⟨fun b o _ q => hk b o q, fun _ _ _ q => q, id, rfl⟩
    refine h _ _ e1 (.lst (vs := (permOf ps).toList.map fun i => ws.getD i Value.none) (n := e) (hL.new (Heap.get?_none_of_le (Nat.le_succ _))) he ?_)
    exact (r.ext hk).perm _ _ hout
end Mine
end
section
open PySem PySem.W PyProof.Rows PySem.Calls
namespace Mine
open Builtin.Str

section
variable {C : Cx} {vals : List VV}
theorem CallOK.split {x y : Str} (hy : (y.length == 0) = false) (hsz : x.length ≤ sizeLine) (hz : (Txt.split x y).length ≤ sizeLine) : CallOK C (.builtin "str.split") [.str x, .str y] (.lst ((Txt.split x y).map .str)) := .mk fun X s E Q vs hK hL r h => by
  cases r with | cons r1 r2 =>
  cases r2 with | cons r2 r3 =>
  cases r3
  cases r1
  cases r2
  rename_i t u
  have fin : ∀ (l : List (Str × Tok)) (k : Nat), l.map (·.1) = Txt.split x y → Q (.ref s.heap.objs.size) { s with toks := k, heap := s.heap.push (lstO (strValues l) 0) } := fun l k e => by
    have e1 : Ext s { s with toks := k, heap := s.heap.push (lstO (strValues l) 0) } := Ext.of (KB.k (Ext.push (o := lstO (strValues l) 0)))
    rw [← e] at h
    exact h _ _ e1 (.lst (n := 0) (hL.new get_size) (Heap.get?_push_size _ rfl) (RpL.ofStrs l))
  cases h1 : (decide (x.length < y.length) || decide (strKind x < strKind y))
  · cases hf : (occurrences x y 0 x.length (x.length + 1)).isEmpty
    · have hsp : Txt.split x y = partsBetween x (occurrences x y 0 x.length (x.length + 1)) y.length := (if_neg (ne_true_of_eq_false h1)).trans (if_neg (ne_true_of_eq_false hf))
      refine call_meets F.slot_str_split (typeIs_str _ _ _) F.entry_str_split (F.args_str_split_2 _ _) (meets_str_split_sep x y t u h1 hy hf hsz (hsp ▸ hz)) ?_
      show wants Q E _ { s with toks := _, heap := s.heap.push { cls := .type "list", data := .seq (strsFrom s.toks (partsBetween x (occurrences x y 0 x.length (x.length + 1)) y.length)).toArray } }
      rw [strsFrom_eq]
      exact fin (numbered s.toks _) _ ((numbered_texts _ _).trans hsp.symm)
    · exact call_meets F.slot_str_split (typeIs_str _ _ _) F.entry_str_split (F.args_str_split_2 _ _) (meets_str_split_not_found x y t u h1 hy hf)
        (fin [(x, t)] s.toks ((if_neg (ne_true_of_eq_false h1)).trans (if_pos hf)).symm)
  · exact call_meets F.slot_str_split (typeIs_str _ _ _) F.entry_str_split (F.args_str_split_2 _ _) (meets_str_split_cannot_occur x y t u h1) (fin [(x, t)] s.toks (if_pos h1).symm)

theorem Op2.isubI {a b : Int} : Op2 C (inplaceOp .Sub) (.int a) (.int b) (.int (a - b)) := .mk fun X s E Q v w hK hL ra rb h => by
  cases ra; cases rb
  exact PySem.P.isub_int (h _ _ (Ext.of fun _ _ e => e) (.int _ _))

/-- a table of texts -/
theorem MapOf.kp {prog : Program} {w : World} {h h' : Heap} {d : Addr} {f : Str → Option Value} (m : h.MapOf (PySem.strKind prog w) d f) (hk : Kp h h') : h'.MapOf (PySem.strKind prog w) d f := by
  obtain ⟨o, es, ep, ho, r⟩ := m
  exact ⟨o, es, ep, hk _ _ ho, r⟩
theorem Ev.inD {l : Expr} {nm : Str} {np pos : Pos} {d : Addr} {f : Str → Option Value} {x : Str} (y : Ev C vals l (.str x)) (g : GV (vals := vals) C nm (.ref d)) (m : C.hT.MapOf (PySem.strKind C.prog C.w) d f) (hd : (d == sysModules) = false) (hm : behindInMarks .In (.Name nm np) = false := by rfl) :
    Ev C vals (.Compare l [.In] [.Name nm np] pos) (.bool (f x).isSome) := .mk fun X s E Q F h =>
  wpAny_Compare1 (y.go X s E _ F fun v s₁ e₁ r₁ => g.go np X s₁ E _ (F.ext e₁.k) (by
    cases r₁
    exact wpAny_in_of (knd := PySem.strKind C.prog C.w) (k := x) (by simp [PySem.strKind, Value.isStrOf]) hd (MapOf.kp m (F.kp.ext e₁.k)) (h _ _ (e₁.trans (Ext.of fun _ _ e => e)) (.bool _)))) hm
theorem Ts.inD {l : Expr} {nm : Str} {np pos : Pos} {d : Addr} {f : Str → Option Value} {x : Str} (y : Ev C vals l (.str x)) (g : GV (vals := vals) C nm (.ref d)) (m : C.hT.MapOf (PySem.strKind C.prog C.w) d f) (hd : (d == sysModules) = false) (hm : behindInMarks .In (.Name nm np) = false := by rfl) :
    Ts C vals (.Compare l [.In] [.Name nm np] pos) (f x).isSome := .mk fun X s E Q F h =>
  wpAny_isTrue_Compare1 (y.go X s E _ F fun v s₁ e₁ r₁ => g.go np X s₁ E _ (F.ext e₁.k) (by
    cases r₁
    exact wpAny_in_of (knd := PySem.strKind C.prog C.w) (k := x) (by simp [PySem.strKind, Value.isStrOf]) hd (MapOf.kp m (F.kp.ext e₁.k)) (wpAny_truthy_bool (h _ (e₁.trans (Ext.of fun _ _ e => e)))))) hm
theorem Ev.getD {nm : Str} {np apos pos : Pos} {e1 e2 : Expr} {d : Addr} {f : Str → Option Value} {x : Str} {dv r : PV}
    (g : GV (vals := vals) C nm (.ref d)) (m : C.hT.MapOf (PySem.strKind C.prog C.w) d f) (hd : (d == sysModules) = false) (y1 : Ev C vals e1 (.str x)) (y2 : Ev C vals e2 dv)
    (hr : (∃ v, f x = some v ∧ ∀ X h, Rp X h v r) ∨ (f x = Option.none ∧ r = dv))
    (hbase : attributeBase (.Name nm np) "get" C.env (eval (.Name nm np) C.env) = eval (.Name nm np) C.env := by rfl)
    (hfew : ((backTo pos (starEach [e1, e2] C.env)).all (fun x => !x.1) && (backToKw pos (keywordEach [] C.env)).all (fun x => x.1.isSome) && decide ([e1, e2].length + ([] : List Keyword).length + (if ([] : List Keyword).isEmpty then 0 else 1) < 30)) = true := by rfl)
    (hline : (apos.endLine == pos.line) = true := by rfl)
    (he : backTo pos (starEach [e1, e2] C.env) = [(false, eval e1 C.env), (false, eval e2 C.env)] := by rfl) :
    Ev C vals (.Call (.Attribute (.Name nm np) "get" apos) [e1, e2] [] pos) r := .mk fun X s E Q F h => by
  have mm := MapOf.kp m F.kp
  refine wpAny_Call_method hbase hfew hline PySem.F.plainAttrs_dict PySem.F.slot_dict_get PySem.F.type_dict_get (g.go np X s E _ F ⟨mm.typeIs, mm.noDict, ?_⟩)
  rw [he]
  refine wpAny_dict_get2 (knd := PySem.strKind C.prog C.w) hd (y1.go X s E _ F fun v s₁ e₁ r₁ => y2.go X s₁ E _ (F.ext e₁.k) fun u s₂ e₂ r₂ => ?_)
  cases r₁
  refine ⟨x, f, by simp [PySem.strKind, Value.isStrOf], MapOf.kp m (F.kp.ext (e₁.trans e₂).k), ?_⟩
  have e₃ : Ext s₂ { s₂ with toks := s₂.toks + 1 } := Ext.of fun _ _ e => e
  rcases hr with ⟨v, hv, hr⟩ | ⟨hn, rfl⟩
  · rw [hv]; exact h _ _ ((e₁.trans e₂).trans e₃) (hr _ _)
  · rw [hn]; exact h _ _ ((e₁.trans e₂).trans e₃) r₂
/-- a global constant -/
theorem Ev.glob {nm : Str} {np : Pos} {v : Value} {d : PV} (g : GV (vals := vals) C nm v) (hv : ∀ X h, Rp X h v d) : Ev C vals (.Name nm np) d := .mk fun X s E Q F h => g.go np X s E _ F (h v s KB.refl (hv _ _))
end
end Mine
end
section
open PySem PySem.W PyProof.Rows PySem.Calls
namespace Mine
set_option maxRecDepth 100000
set_option maxHeartbeats 8000000

noncomputable def esG (P : Params) : { p : Array DictEntry × Nat // (KH P).lookup 3 = some { cls := .type "dict", data := .dict p.1 p.2 } } := ⟨(_, _), rfl⟩
noncomputable def mgP (P : Params) : Str → Option Value := nsFind (esG P).1.1

theorem mg_len (P : Params) : mgP P (Str.ofString "len") = none := by kernel_rfl
theorem mg_range (P : Params) : mgP P (Str.ofString "range") = none := by kernel_rfl
theorem mg_sum (P : Params) : mgP P (Str.ofString "sum") = none := by kernel_rfl
theorem mg_sorted (P : Params) : mgP P (Str.ofString "sorted") = none := by kernel_rfl
theorem mg_max (P : Params) : mgP P (Str.ofString "max") = none := by kernel_rfl
theorem mg_enumerate (P : Params) : mgP P (Str.ofString "enumerate") = none := by kernel_rfl
theorem mg_38 (P : Params) : mgP P (Str.ofString "_iter_escaped_chars") = some (.ref 38) := by kernel_rfl
theorem mg_45 (P : Params) : mgP P (Str.ofString "_strip_quoted_realnames") = some (.ref 45) := by kernel_rfl
theorem mg_52 (P : Params) : mgP P (Str.ofString "_check_parenthesis") = some (.ref 52) := by kernel_rfl
theorem mg_57 (P : Params) : mgP P (Str.ofString "_twin_re_1") = some (.ref 57) := by kernel_rfl
theorem mg_62 (P : Params) : mgP P (Str.ofString "_twin_re_2") = some (.ref 62) := by kernel_rfl
theorem mg_69 (P : Params) : mgP P (Str.ofString "quotedata") = some (.ref 69) := by kernel_rfl
theorem mg_70 (P : Params) : mgP P (Str.ofString "EXACT_TOKEN_TYPES") = some (.ref 70) := by kernel_rfl
theorem mg_79 (P : Params) : mgP P (Str.ofString "ISTERMINAL") = some (.ref 79) := by kernel_rfl
theorem mg_86 (P : Params) : mgP P (Str.ofString "ISEOF") = some (.ref 86) := by kernel_rfl
theorem mg_93 (P : Params) : mgP P (Str.ofString "_law_grown") = some (.ref 93) := by kernel_rfl
theorem mg_98 (P : Params) : mgP P (Str.ofString "_law_numbers") = some (.ref 98) := by kernel_rfl
theorem mg_103 (P : Params) : mgP P (Str.ofString "_law_mates") = some (.ref 103) := by kernel_rfl
theorem mg_end (P : Params) : mgP P (Str.ofString "ENDMARKER") = some (.int 0 387) := by kernel_rfl

/-- what the module leaves behind -/
structure Bs (w : World) (hT : Heap) (mb : Str → Option Value) : Prop where
  kx : (KH w.params).In hT
  g : hT.Ns mainGlobals (mgP w.params)
  b : hT.Ns builtinsNs mb
  bb : ∀ x : Str, x ≠ "__name__" → mb x = bootBuiltins x
  lim : hT.NoLimit

noncomputable def o79 : { o : Obj // ∀ P, (KH P).lookup 79 = some o } := ⟨_, fun P => rfl⟩
noncomputable def f79 : { fd : FuncData // o79.1.data = .func fd } := ⟨_, rfl⟩
noncomputable def b79 : { b : List Stmt // f79.1.body = .stmts b } := ⟨_, rfl⟩
noncomputable def o86 : { o : Obj // ∀ P, (KH P).lookup 86 = some o } := ⟨_, fun P => rfl⟩
noncomputable def f86 : { fd : FuncData // o86.1.data = .func fd } := ⟨_, rfl⟩
noncomputable def b86 : { b : List Stmt // f86.1.body = .stmts b } := ⟨_, rfl⟩

theorem code_of {w : World} {hT : Heap} {mb : Str → Option Value} (B : Bs w hT mb) {fd : FuncData} {c : Addr} {oc : Obj} {vs : Array Value} {tq : Tok} (h1 : fd.code = .ref c) (h2 : (KH w.params).lookup c = some oc) (h3 : oc.data = .fields vs) (h4 : vs[1]? = some (.str fd.qualname tq)) : hT.CodeRec fd.code fd.qualname :=
  ⟨c, oc, vs, tq, h1, B.kx _ _ h2, h3, h4⟩

theorem fn1 {fd : FuncData} {p : Str} (h : ∀ v : Value, bindArgs fd ⟨[v], []⟩ = pure [(p, v)]) : ∀ vs : List Value, vs.length = [p].length → bindArgs fd ⟨vs, []⟩ = pure ([p].zip vs)
  | [v], _ => h v
  | [], e => by cases e
  | _ :: _ :: _, e => by cases e

theorem N86 : Fn f86.1 ["x"] [] where
  kinds := by decide +kernel
  nd := by decide +kernel
  dbg := by decide +kernel
  cn := by decide +kernel
  kind := rfl
  bind := fn1 fun v => rfl
theorem ok_iseof {C : Cx} {mb : Str → Option Value} {n : Nat} (B : Bs C.w C.hT mb) (hr : Rm C.A (n + 1)) (k : Int) : CallOK C (.ref 86) [.int k] (.bool (k == 0)) := by
  refine CallOK.fn (ps := ["x"]) (rest := []) 0 N86 hr (B.kx _ _ (o86.2 _)) f86.2 B.lim (code_of B rfl rfl rfl rfl) b86.2 rfl rfl (fun L => ?_)
  have G : Gl (C.into f86.1 86 L ([("x" : Str)] ++ [])) (mgP C.w.params) mb := ⟨B.g, B.b, rfl, rfl⟩
  exact Ex.one (Ex1.ret (Ev.cmp (Ev.name 0 rfl rfl) (Ev.glob (G.glob (v := .int 0 387) rfl (mg_end _) rfl) fun _ _ => .int _ _) Op2.eqI))
theorem N79 : Fn f79.1 ["x"] [] where
  kinds := by decide +kernel
  nd := by decide +kernel
  dbg := by decide +kernel
  cn := by decide +kernel
  kind := rfl
  bind := fn1 fun v => rfl
theorem ok_isterminal {C : Cx} {mb : Str → Option Value} {n : Nat} (B : Bs C.w C.hT mb) (hr : Rm C.A (n + 1)) (k : Int) : CallOK C (.ref 79) [.int k] (.bool (decide (k < 256))) := by
  refine CallOK.fn (ps := ["x"]) (rest := []) 0 N79 hr (B.kx _ _ (o79.2 _)) f79.2 B.lim (code_of B rfl rfl rfl rfl) b79.2 rfl rfl (fun L => ?_)
  have G : Gl (C.into f79.1 79 L ([("x" : Str)] ++ [])) (mgP C.w.params) mb := ⟨B.g, B.b, rfl, rfl⟩
  exact Ex.one (Ex1.ret (Ev.cmp (Ev.name 0 rfl rfl) (Ev.glob (G.glob (v := .int 256 _) rfl rfl rfl) fun _ _ => .int _ _) Op2.ltI))

-- quotedata
noncomputable def o69 : { o : Obj // ∀ P, (KH P).lookup 69 = some o } := ⟨_, fun P => rfl⟩
noncomputable def f69 : { fd : FuncData // o69.1.data = .func fd } := ⟨_, rfl⟩
noncomputable def b69 : { b : List Stmt // f69.1.body = .stmts b } := ⟨_, rfl⟩
theorem N69 : Fn f69.1 ["data"] [] where
  kinds := by decide +kernel
  nd := by decide +kernel
  dbg := by decide +kernel
  cn := by decide +kernel
  kind := rfl
  bind := fn1 fun v => rfl
theorem re1 {w : World} {hT : Heap} {mb : Str → Option Value} (B : Bs w hT mb) : RePat hT 57 code1 :=
  ⟨⟨_, _, _, _, 56, _, _, _, B.kx _ _ rfl, B.kx _ _ rfl, rfl, by decide +kernel, by decide⟩⟩
theorem re2 {w : World} {hT : Heap} {mb : Str → Option Value} (B : Bs w hT mb) : RePat hT 62 code2 :=
  ⟨⟨_, _, _, _, 61, _, _, _, B.kx _ _ rfl, B.kx _ _ rfl, rfl, by decide +kernel, by decide⟩⟩
theorem ok_quotedata {C : Cx} {mb : Str → Option Value} {n : Nat} (B : Bs C.w C.hT mb) (hr : Rm C.A (n + 1)) (x : Str) (h1 : x.cps.size ≤ 1000) (h2 : (normed x.cps.toList).length ≤ 1000) :
    CallOK C (.ref 69) [.str x] (.str ⟨(dotted true (normed x.cps.toList)).toArray⟩) := by
  refine CallOK.fn (ps := ["data"]) (rest := []) 0 N69 hr (B.kx _ _ (o69.2 _)) f69.2 B.lim (code_of B rfl rfl rfl rfl) b69.2 rfl rfl (fun L => ?_)
  have G : Gl (C.into f69.1 69 L ([("data" : Str)] ++ [])) (mgP C.w.params) mb := ⟨B.g, B.b, rfl, rfl⟩
  exact Ex.one (Ex1.ret (Ev.dots (x := ⟨(normed x.cps.toList).toArray⟩) (G.glob (v := .ref 57) rfl (mg_57 _) rfl) (re1 B) Ev.str (Ev.norm (G.glob (v := .ref 62) rfl (mg_62 _) rfl) (re2 B) (Ev.glob (G.glob (v := .str ⟨#[13, 10]⟩ 376) rfl rfl rfl) fun _ _ => .str _ _) (Ev.name 0 rfl rfl) h1) (by simpa using h2)))
end Mine
end
section
open PySem PySem.W PyProof.Rows PySem.Calls
namespace Mine
set_option maxRecDepth 100000
set_option maxHeartbeats 8000000

noncomputable def o38 : { o : Obj // ∀ P, (KH P).lookup 38 = some o } := ⟨_, fun P => rfl⟩
noncomputable def f38 : { fd : FuncData // o38.1.data = .func fd } := ⟨_, rfl⟩
noncomputable def b38 : { b : List Stmt // f38.1.body = .stmts b } := ⟨_, rfl⟩
theorem N38 : Fn f38.1 ["addr"] ["pos", "escape", "ch"] where
  kinds := by decide +kernel
  nd := by decide +kernel
  dbg := by decide +kernel
  cn := by decide +kernel
  kind := rfl
  bind := fn1 fun v => rfl
theorem bslash : (Str.ofString "\\") = ⟨#[92]⟩ := by decide +kernel

theorem le2 : (2 : Nat) ≤ sizeLine := by decide
theorem one_eq (c : Nat) : ((⟨#[c]⟩ : Str) == ⟨#[92]⟩) = (c == 92) := by
  rw [Bool.eq_iff_iff, beq_iff_eq, beq_iff_eq]
  simp

theorem src_iter {C : Cx} {vals : List VV} {mb : Str → Option Value} {n : Nat} (B : Bs C.w C.hT mb) (hr : Rm C.A (n + 1)) {np pos : Pos} {ea : Expr} {x : Str} (gv : GV (vals := vals) C "_iter_escaped_chars" (.ref 38)) (y : Ev C vals ea (.str x)) (hok : escOK false x.cps.toList = true)
    (he : starEach [ea] C.env = (false, eval ea C.env) :: starEach [] C.env := by rfl) : SrcOK C vals (.Call (.Name "_iter_escaped_chars" np) [ea] [] pos) (escGo 0 false x.cps.toList) := by
  refine SrcOK.gen (ps := ["addr"]) (rest := ["pos", "escape", "ch"]) (body := b38.1) gv (B.kx _ _ (o38.2 _)) f38.2 N38 rfl hr B.lim (code_of B rfl rfl rfl rfl) b38.2 rfl rfl rfl (fun L => rfl) y hok (fun L => ?_) (fun L => ?_) rfl he
  · exact {
      t1 := fun B pv esc cv => Ts.val (Ev.name 2 rfl rfl)
      y1 := fun B pv esc c => (Ev.tuple (EvL.cons (Ev.name 1 rfl rfl) (EvL.cons (Ev.bin Ev.str (Ev.name 3 rfl rfl) (Op2.addS (by rw [bslash]; exact le2))) EvL.nil)) le2).cast (by rw [bslash]; rfl)
      s1 := fun B pv esc cv => Ex1.asg 2 Ev.bool rfl
      t2 := fun B pv esc c => (Ts.cmp (Ev.name 3 rfl rfl) Ev.str Op2.eqS).cast (by rw [bslash]; exact one_eq c)
      s2 := fun B pv esc cv => Ex1.asg 2 Ev.bool rfl
      y2 := fun B pv esc c => Ev.tuple (EvL.cons (Ev.name 1 rfl rfl) (EvL.cons (Ev.name 3 rfl rfl) EvL.nil)) le2
      np := rfl
      nc := rfl
      fix := rfl
      co := rfl
      act := rfl }
  · have G : ∀ A, Gl ((C.into f38.1 38 L (([("addr" : Str)] : List Str) ++ ([("pos" : Str), ("escape" : Str), ("ch" : Str)] : List Str))).at A) (mgP C.w.params) mb := fun A => ⟨B.g, B.b, rfl, rfl⟩
    have hb : mb "enumerate" = some (.type "enumerate") := (B.bb _ (by decide +kernel)).trans boot_enumerate
    exact {
      a1 := fun B => Ex1Z.int 1 rfl
      a2 := fun B => Ex1Z.bool 2 rfl
      src := fun A X s E Q F h => by
        refine wpAny_Call_NameR (((G A).built (vals := gV x 0 false .u) rfl (mg_enumerate _) hb rfl).go _ X s E _ F (PyProof.Rows.callWith_type1 ?_ rfl rfl))
        refine spliced_cons (wpAny_Name (F.load (i := 0) rfl rfl fun v r => spliced_nil ?_) rfl)
        cases r
        exact h _
      fold := fun v => rfl
      tst := fun B pv esc cv => Ts.val (Ev.name 2 rfl rfl) }
end Mine
end
section
open PySem PySem.W PyProof.Rows PySem.Calls
namespace Mine
set_option maxRecDepth 100000
set_option maxHeartbeats 8000000

theorem loopR_next {T : Type} (V : T → List VV) (st : T → PV → T) : ∀ (xs : List PV) (t : T), loopR V (fun t d => .next (st t d)) xs t = .next (V (xs.foldl st t))
  | [], t => rfl
  | x :: xs, t => loopR_next V st xs (st t x)

noncomputable def o45 : { o : Obj // ∀ P, (KH P).lookup 45 = some o } := ⟨_, fun P => rfl⟩
noncomputable def f45 : { fd : FuncData // o45.1.data = .func fd } := ⟨_, rfl⟩
noncomputable def b45 : { b : List Stmt // f45.1.body = .stmts b } := ⟨_, rfl⟩
theorem N45 : Fn f45.1 ["addr"] ["start", "open_pos", "result", "pos", "ch"] where
  kinds := by decide +kernel
  nd := by decide +kernel
  dbg := by decide +kernel
  cn := by decide +kernel
  kind := rfl
  bind := fn1 fun v => rfl

noncomputable abbrev optPV (a : Option Int) : PV := match a with | .none => .none | .some i => .int i
structure StT where
  start : Int
  op : Option Int
  res : List Str
  pv : VV
  cv : VV
noncomputable abbrev stV (x : Str) (a : Addr) (t : StT) : List VV := [.p (.str x), .p (.int t.start), .p (optPV t.op), .o a (t.res.map .str), t.pv, t.cv]
noncomputable def stSt (x : Str) (t : StT) (d : PV) : StT := match d with
  | .tup [.int pos, .str ch] =>
    let t := { t with pv := .p (.int pos), cv := .p (.str ch) }
    if ch == ⟨#[34]⟩ then (match t.op with
      | none => { t with op := some pos }
      | some o => if t.start != o then { t with start := pos + 1, op := none, res := t.res ++ [Txt.slice x (some t.start) (some o)] } else { t with start := pos + 1, op := none }) else t
  | _ => t
noncomputable abbrev st0 : StT := ⟨0, none, [], .u, .u⟩
noncomputable def stEnd (x : Str) : StT := (escGo 0 false x.cps.toList).foldl (stSt x) st0
noncomputable def stRes (x : Str) : List Str := if (stEnd x).start < x.length then (stEnd x).res ++ [Txt.slice x (some (stEnd x).start) none] else (stEnd x).res
/-- what is left of a text without its quotations -/
noncomputable def stripP (x : Str) : Str := if !Txt.contains x ⟨#[34]⟩ then x else Txt.join ⟨#[]⟩ (stRes x)

theorem quote : (Str.ofString "\"") = ⟨#[34]⟩ := by decide +kernel
theorem empty0 : (Str.ofString "") = ⟨#[]⟩ := by decide +kernel

theorem escGo_shape : ∀ (cs : List Nat) (k : Nat) (b : Bool) (d : PV), d ∈ escGo k b cs → ∃ i c, d = .tup [.int i, .str c]
  | [], k, true, d, h => ⟨_, _, List.mem_singleton.mp h⟩
  | [], k, false, d, h => nomatch h
  | c :: cs, k, true, d, h => by
    rcases List.mem_cons.mp h with rfl | h
    · exact ⟨_, _, rfl⟩
    · exact escGo_shape cs _ _ d h
  | c :: cs, k, false, d, h => by
    simp only [escGo] at h
    split at h
    · exact escGo_shape cs _ _ d h
    · rcases List.mem_cons.mp h with rfl | h
      · exact ⟨_, _, rfl⟩
      · exact escGo_shape cs _ _ d h
theorem escGo_len : ∀ (cs : List Nat) (k : Nat) (b : Bool), (escGo k b cs).length ≤ cs.length + 1
  | [], k, true => Nat.le_refl _
  | [], k, false => Nat.zero_le _
  | c :: cs, k, true => by simp only [escGo, List.length_cons]; have := escGo_len cs (k + 1) false; omega
  | c :: cs, k, false => by
    simp only [escGo]
    split
    · have := escGo_len cs (k + 1) true; simp only [List.length_cons]; omega
    · have := escGo_len cs (k + 1) false; simp only [List.length_cons]; omega

theorem stSt_len (x : Str) (t : StT) (d : PV) : (stSt x t d).res.length ≤ t.res.length + 1 := by
  unfold stSt
  split
  · dsimp only
    split
    · split
      · exact Nat.le_succ _
      · split
        · simp
        · exact Nat.le_succ _
    · exact Nat.le_succ _
  · exact Nat.le_succ _
theorem stSt_plain (x : Str) (t : StT) (d : PV) (h : noOwn [t.pv, t.cv] = true) : noOwn [(stSt x t d).pv, (stSt x t d).cv] = true := by
  unfold stSt
  split
  · dsimp only
    split
    · split
      · rfl
      · split <;> rfl
    · rfl
  · exact h
theorem stEnd_plain (x : Str) : noOwn [(stEnd x).pv, (stEnd x).cv] = true := by
  have : ∀ (l : List PV) (t : StT), noOwn [t.pv, t.cv] = true → noOwn [(l.foldl (stSt x) t).pv, (l.foldl (stSt x) t).cv] = true := by
    intro l
    induction l with
    | nil => intro t h; exact h
    | cons d l ih => intro t h; exact ih _ (stSt_plain x t d h)
  exact this _ st0 rfl
theorem stEnd_len (x : Str) : (stEnd x).res.length ≤ x.length + 1 := by
  have : ∀ (l : List PV) (t : StT), (l.foldl (stSt x) t).res.length ≤ t.res.length + l.length := by
    intro l
    induction l with
    | nil => intro t; exact Nat.le_refl _
    | cons d l ih => intro t; have h1 := ih (stSt x t d); have h2 := stSt_len x t d; simp only [List.foldl_cons, List.length_cons]; omega
  have h1 := this (escGo 0 false x.cps.toList) st0
  have h2 := escGo_len x.cps.toList 0 false
  exact Nat.le_trans h1 (by simpa [Str.length] using h2)

theorem ok_strip {C : Cx} {mb : Str → Option Value} {n : Nat} (B : Bs C.w C.hT mb) (hr : Rm C.A (n + 3)) (x : Str) (hx : x.length ≤ 1000) (hok : escOK false x.cps.toList = true) (hJ : JoinOk ⟨#[]⟩ (stRes x) = true) : CallOK C (.ref 45) [.str x] (.str (stripP x)) := by
  refine CallOK.fn (ps := ["addr"]) (rest := ["start", "open_pos", "result", "pos", "ch"]) 5 N45 (n := n + 2) hr (B.kx _ _ (o45.2 _)) f45.2 B.lim (code_of B rfl rfl rfl rfl) b45.2 rfl rfl (fun L => ?_)
  have hxs : x.length ≤ sizeLine := Nat.le_trans hx (by decide)
  have G : Gl (C.into f45.1 45 L (([("addr" : Str)] : List Str) ++ ([("start" : Str), ("open_pos" : Str), ("result" : Str), ("pos" : Str), ("ch" : Str)] : List Str))) (mgP C.w.params) mb := ⟨B.g, B.b, rfl, rfl⟩
  have hlen : mb "len" = some (.builtin "len") := (B.bb _ (by decide +kernel)).trans boot_len
  have hr2 : Rm (C.into f45.1 45 L (([("addr" : Str)] : List Str) ++ ([("start" : Str), ("open_pos" : Str), ("result" : Str), ("pos" : Str), ("ch" : Str)] : List Str))).A (n + 2) := hr.deeper
  refine Ex.ifs (b := !Txt.contains x ⟨#[34]⟩) (Ts.cmp (Ev.str.cast (d' := .str ⟨#[34]⟩) (by rw [quote])) (Ev.name 0 rfl rfl) Op2.ninS) (fun hb => ?_) (fun hb => ?_)
  · exact Ex.last (Ex1.ret ((Ev.name 0 rfl rfl).cast (by rw [stripP, if_pos hb]))) (fun _ e => nomatch e)
  · refine Ex.seq (Ex1.asg 1 Ev.int rfl) (Ex.seq (Ex1.asg 2 Ev.none rfl) (Ex.own 3 rfl fun a hna => ?_))
    refine Ex.seq ((Ex1.loopS (T := StT) (stV x a) (fun t d => .next (stSt x t d)) (fun pre t => t.res.length ≤ pre.length) st0 (src_iter (C := (C.into f45.1 45 L (([("addr" : Str)] : List Str) ++ ([("start" : Str), ("open_pos" : Str), ("result" : Str), ("pos" : Str), ("ch" : Str)] : List Str)))) B hr2 (G.glob (v := .ref 38) rfl (mg_38 _) rfl) (Ev.name 0 rfl rfl) hok) (Nat.zero_le _) (fun pre d post t hxs' hI => ?_)).cast (loopR_next _ _ _ _)) ?_
    · have hd : d ∈ escGo 0 false x.cps.toList := by rw [hxs']; simp
      obtain ⟨i, c, rfl⟩ := escGo_shape _ _ _ _ hd
      have hpl : pre.length ≤ 1000 := by
        have h1 := congrArg List.length hxs'
        have h2 := escGo_len x.cps.toList 0 false
        have h3 : x.cps.toList.length ≤ 1000 := hx
        simp only [List.length_append, List.length_cons] at h1; omega
      have hrl : t.res.length ≤ 1000 := Nat.le_trans hI hpl
      refine ⟨⟨_, Asg.pair 4 5 hr2.hh rfl rfl, ?_⟩, fun t' ht => ?_⟩
      · refine Ex.one (Ex1.ifs (b := c == ⟨#[34]⟩) (Ts.cmp (Ev.name 5 rfl rfl) (Ev.str.cast (d' := .str ⟨#[34]⟩) (by rw [quote])) Op2.eqS) (fun hc => ?_) (fun hc => ?_))
        · obtain ⟨start, op, res, pv, cv⟩ := t
          cases op with
          | none =>
            refine Ex.one (Ex1.ifs (b := true) (Ts.cmp (Ev.name 2 rfl rfl) Ev.none (Op2.isN (a := none))) (fun _ => ?_) (fun e => nomatch e))
            refine Ex.one ((Ex1.asg 2 (Ev.name 4 rfl rfl) rfl).cast ?_)
            simp only [stSt, hc, if_true, LR.out]; rfl
          | some o =>
            refine Ex.one (Ex1.ifs (b := false) (Ts.cmp (Ev.name 2 rfl rfl) Ev.none (Op2.isN (a := some o))) (fun e => nomatch e) (fun _ => ?_))
            refine Ex.ifs (b := start != o) (Ts.cmp (Ev.name 1 rfl rfl) (Ev.name 2 rfl rfl) Op2.neI) (fun hs => ?_) (fun hs => ?_)
            · refine Ex.seq (Ex1.app 3 rfl rfl rfl (Ev.sliceS (Ev.name 0 rfl rfl) (.some (Ev.name 1 rfl rfl)) (.some (Ev.name 2 rfl rfl)) hxs) (by rw [List.length_map]; exact Nat.lt_of_le_of_lt hrl (by decide))) ?_
              refine Ex.seq (Ex1.asg 1 (Ev.bin (Ev.name 4 rfl rfl) Ev.int Op2.addI) rfl) (Ex.one ((Ex1.asg 2 Ev.none rfl).cast ?_))
              simp only [stSt, hc, hs, if_true, LR.out]
              simp
            · refine Ex.seq (Ex1.asg 1 (Ev.bin (Ev.name 4 rfl rfl) Ev.int Op2.addI) rfl) (Ex.one ((Ex1.asg 2 Ev.none rfl).cast ?_))
              simp only [stSt, hc, hs, if_true, LR.out]
              rfl
        · refine Ex.nil.cast ?_
          simp only [stSt, hc, LR.out]
          rfl
      · cases ht
        have := stSt_len x t (.tup [.int i, .str c])
        rw [List.length_append, List.length_singleton]; omega
    · have hno : noOwn ((stV x a (stEnd x)).set 3 .u) = true := by
        have h1 := stEnd_plain x
        generalize stEnd x = t at h1
        simpa [noOwn] using h1
      have hrl : (stEnd x).res.length ≤ 1001 := Nat.le_trans (stEnd_len x) (Nat.succ_le_succ hx)
      have ret : ∀ (l : List Str), stRes x = l → noOwn (((stV x a (stEnd x)).set 3 (.o a (l.map .str))).set 3 .u) = true → Ex (C.into f45.1 45 L (([("addr" : Str)] : List Str) ++ ([("start" : Str), ("open_pos" : Str), ("result" : Str), ("pos" : Str), ("ch" : Str)] : List Str))) (a :: mtOf f45.1 L) (b45.1.drop 6) ((stV x a (stEnd x)).set 3 (.o a (l.map .str))) (.ret (.str (stripP x))) := fun l hl hn => by
        subst hl
        refine Ex.freeze 3 rfl rfl hn hna ?_
        exact Ex.one (Ex1.ret ((Ev.meth (Ev.str.cast (d' := .str ⟨#[]⟩) (by rw [empty0])) (EvL.cons (Ev.name 3 rfl rfl) EvL.nil) (CallOK.join hJ) ty_str PySem.F.plainAttrs_str PySem.F.slot_str_join PySem.F.type_str_join).cast (by rw [stripP, if_neg (by rw [hb]; exact Bool.false_ne_true)])))
      refine Ex.ifs (b := decide ((stEnd x).start < x.length)) (Ts.cmp (Ev.name 1 rfl rfl) (Ev.callB (G.built rfl (mg_len _) hlen rfl) (EvL.cons (Ev.name 0 rfl rfl) EvL.nil) (CallOK.lenS (Nat.lt_of_le_of_lt hx (by decide)))) Op2.ltI) (fun hs => ?_) (fun hs => ?_)
      · have hs' : (stEnd x).start < x.length := of_decide_eq_true hs
        refine Ex.seq (Ex1.app 3 rfl rfl hno (Ev.sliceS (Ev.name 0 rfl rfl) (.some (Ev.name 1 rfl rfl)) .none hxs) (by rw [List.length_map]; exact Nat.lt_of_le_of_lt hrl (by decide))) ?_
        have := ret ((stEnd x).res ++ [Txt.slice x (some (stEnd x).start) none]) (if_pos hs') hno
        rw [List.map_append] at this
        exact this
      · have hs' : ¬ (stEnd x).start < x.length := of_decide_eq_false hs
        exact ret (stEnd x).res (if_neg hs') hno
end Mine
end
section
open PySem PySem.W PyProof.Rows PySem.Calls
namespace Mine
set_option maxRecDepth 100000
set_option maxHeartbeats 8000000

noncomputable def o52 : { o : Obj // ∀ P, (KH P).lookup 52 = some o } := ⟨_, fun P => rfl⟩
noncomputable def f52 : { fd : FuncData // o52.1.data = .func fd } := ⟨_, rfl⟩
noncomputable def b52 : { b : List Stmt // f52.1.body = .stmts b } := ⟨_, rfl⟩
theorem N52 : Fn f52.1 ["addr"] ["opens", "pos", "ch"] where
  kinds := by decide +kernel
  nd := by decide +kernel
  dbg := by decide +kernel
  cn := by decide +kernel
  kind := rfl
  bind := fn1 fun v => rfl

structure ChT where
  o : Int
  pv : VV
  cv : VV
noncomputable abbrev chV (y : Str) (t : ChT) : List VV := [.p (.str y), .p (.int t.o), t.pv, t.cv]
noncomputable def chStep (t : ChT) (d : PV) : LR ChT := match d with
  | .tup [.int pos, .str ch] =>
    if ch == ⟨#[40]⟩ then .next ⟨t.o + 1, .p (.int pos), .p (.str ch)⟩
    else if ch == ⟨#[41]⟩ then (if t.o - 1 < 0 then .ret (.bool false) else .next ⟨t.o - 1, .p (.int pos), .p (.str ch)⟩)
    else .next ⟨t.o, .p (.int pos), .p (.str ch)⟩
  | _ => .next t
noncomputable def chRun : List PV → Int → Option Int
  | [], o => some o
  | .tup [.int _, .str ch] :: ds, o => if ch == ⟨#[40]⟩ then chRun ds (o + 1) else if ch == ⟨#[41]⟩ then (if o - 1 < 0 then none else chRun ds (o - 1)) else chRun ds o
  | _ :: ds, o => chRun ds o
theorem ch_loop (y : Str) : ∀ (xs : List PV) (t : ChT), (∀ d ∈ xs, ∃ i c, d = .tup [.int i, .str c]) → (∃ t', loopR (chV y) chStep xs t = .next (chV y t') ∧ chRun xs t.o = some t'.o) ∨ (loopR (chV y) chStep xs t = .ret (.bool false) ∧ chRun xs t.o = none)
  | [], t, _ => .inl ⟨t, rfl, rfl⟩
  | d :: ds, t, h => by
    obtain ⟨i, c, rfl⟩ := h d List.mem_cons_self
    have ih := fun t => ch_loop y ds t fun d hd => h d (List.mem_cons_of_mem _ hd)
    simp only [loopR, chStep, chRun]
    by_cases h1 : (c == ⟨#[40]⟩) = true
    · rw [if_pos h1, if_pos h1]; exact ih _
    · rw [if_neg h1, if_neg h1]
      by_cases h2 : (c == ⟨#[41]⟩) = true
      · rw [if_pos h2, if_pos h2]
        by_cases h3 : t.o - 1 < 0
        · rw [if_pos h3, if_pos h3]; exact .inr ⟨rfl, rfl⟩
        · rw [if_neg h3, if_neg h3]; exact ih _
      · rw [if_neg h2, if_neg h2]; exact ih _

/-- whether the brackets of a text fit -/
noncomputable def chkP (x : Str) : Bool := match chRun (escGo 0 false (stripP x).cps.toList) 0 with
  | some o => o == 0
  | none => false
theorem open1 : (Str.ofString "(") = ⟨#[40]⟩ := by decide +kernel
theorem close1 : (Str.ofString ")") = ⟨#[41]⟩ := by decide +kernel

theorem loopR_shape {T : Type} (V : T → List VV) (step : T → PV → LR T) : ∀ (xs : List PV) (t : T), (∃ t', loopR V step xs t = .next (V t')) ∨ ∃ d, loopR V step xs t = .ret d
  | [], t => .inl ⟨t, rfl⟩
  | x :: xs, t => by
    simp only [loopR]
    cases step t x with
    | next t' => exact loopR_shape V step xs t'
    | brk t' => exact .inl ⟨t', rfl⟩
    | ret d => exact .inr ⟨d, rfl⟩
/-- a loop with what stands behind it -/
theorem Ex.loopC {C : Cx} {Mt : List Addr} {T : Type} {target iter : Expr} {body rest : List Stmt} {pos : Pos} {xs : List PV} {out : Out} (V : T → List VV) (step : T → PV → LR T) (Inv : List PV → T → Prop) (t0 : T)
    (src : SrcOK C (V t0) iter xs) (h0 : Inv [] t0)
    (hb : ∀ pre x post t, xs = pre ++ x :: post → Inv pre t → (∃ v1, Asg C Mt target x (V t) v1 ∧ Ex C Mt body v1 (LR.out V (step t x))) ∧ (∀ t', step t x = .next t' → Inv (pre ++ [x]) t'))
    (hn : ∀ t', loopR V step xs t0 = .next (V t') → Ex C Mt rest (V t') out) (hr : ∀ d, loopR V step xs t0 = .ret d → out = .ret d)
    (hs : ∀ x, foldedSetIterable iter C.env x = pure x := by intro _; rfl) : Ex C Mt (.For target iter body [] pos :: rest) (V t0) out := by
  have lp := Ex1.loopS (Mt := Mt) (pos := pos) V step Inv t0 src h0 hb hs
  rcases loopR_shape V step xs t0 with ⟨t', e⟩ | ⟨d, e⟩
  · exact Ex.seq (lp.cast e) (hn t' e)
  · rw [hr d e]
    exact Ex.last (lp.cast e) (fun _ q => nomatch q)

noncomputable abbrev D52 (C : Cx) (L : Addr) : Cx := C.into f52.1 52 L (([("addr" : Str)] : List Str) ++ ([("opens" : Str), ("pos" : Str), ("ch" : Str)] : List Str))
theorem ok_check {C : Cx} {mb : Str → Option Value} {n : Nat} (B : Bs C.w C.hT mb) (hr : Rm C.A (n + 4)) (x : Str) (hx : x.length ≤ 1000) (hok : escOK false x.cps.toList = true) (hJ : JoinOk ⟨#[]⟩ (stRes x) = true) (hok2 : escOK false (stripP x).cps.toList = true) : CallOK C (.ref 52) [.str x] (.bool (chkP x)) := by
  refine CallOK.fn (ps := ["addr"]) (rest := ["opens", "pos", "ch"]) 3 N52 (n := n + 3) hr (B.kx _ _ (o52.2 _)) f52.2 B.lim (code_of B rfl rfl rfl rfl) b52.2 rfl rfl (fun L => ?_)
  have G : Gl (D52 C L) (mgP C.w.params) mb := ⟨B.g, B.b, rfl, rfl⟩
  have hr2 : Rm (D52 C L).A (n + 3) := hr.deeper
  refine Ex.seq (Ex1.asg 0 (Ev.callF (G.glob (v := .ref 45) rfl (mg_45 _) rfl) (B.kx _ _ (o45.2 _)) f45.2 (EvL.cons (Ev.name 0 rfl rfl) EvL.nil) (ok_strip (C := D52 C L) B hr2 x hx hok hJ)) rfl) (Ex.seq (Ex1.asg 1 Ev.int rfl) ?_)
  have hcl := ch_loop (stripP x) (escGo 0 false (stripP x).cps.toList) ⟨0, .u, .u⟩ (escGo_shape _ _ _)
  refine Ex.loopC (T := ChT) (chV (stripP x)) chStep (fun _ _ => True) ⟨0, .u, .u⟩ (src_iter (C := D52 C L) B (n := n + 2) hr2 (G.glob (v := .ref 38) rfl (mg_38 _) rfl) (Ev.name 0 rfl rfl) hok2) trivial (fun pre d post t hxs hI => ⟨?_, fun _ _ => trivial⟩) (fun t' e => ?_) (fun d e => ?_)
  · have hd : d ∈ escGo 0 false (stripP x).cps.toList := by rw [hxs]; simp
    obtain ⟨i, c, rfl⟩ := escGo_shape _ _ _ _ hd
    refine ⟨_, Asg.pair 2 3 hr2.hh rfl rfl, ?_⟩
    refine Ex.one (Ex1.ifs (b := c == ⟨#[40]⟩) (Ts.cmp (Ev.name 3 rfl rfl) (Ev.str.cast (d' := .str ⟨#[40]⟩) (by rw [open1])) Op2.eqS) (fun hc => ?_) (fun hc => ?_))
    · refine Ex.one ((Ex1.aug 1 rfl rfl Ev.int Op2.iaddI).cast ?_)
      simp only [chStep, hc, if_true, LR.out]; rfl
    · refine Ex.one (Ex1.ifs (b := c == ⟨#[41]⟩) (Ts.cmp (Ev.name 3 rfl rfl) (Ev.str.cast (d' := .str ⟨#[41]⟩) (by rw [close1])) Op2.eqS) (fun hc2 => ?_) (fun hc2 => ?_))
      · refine Ex.seq (Ex1.aug 1 rfl rfl Ev.int Op2.isubI) (Ex.one (Ex1.ifs (b := decide (t.o - 1 < 0)) (Ts.cmp (Ev.name 1 rfl rfl) Ev.int Op2.ltI) (fun h3 => ?_) (fun h3 => ?_)))
        · refine Ex.one ((Ex1.ret Ev.bool).cast ?_)
          simp only [chStep, hc, hc2, Bool.false_eq_true, if_false, if_true, of_decide_eq_true h3, LR.out]
        · refine Ex.nil.cast ?_
          simp only [chStep, hc, hc2, Bool.false_eq_true, if_false, if_true, of_decide_eq_false h3, LR.out]; rfl
      · refine Ex.nil.cast ?_
        simp only [chStep, hc, hc2, Bool.false_eq_true, if_false, LR.out]; rfl
  · rcases hcl with ⟨t2, e1, e2⟩ | ⟨e1, _⟩
    · rw [e] at e1
      have e3 : t'.o = t2.o := by
        have := Out.next.inj e1
        simp [chV] at this
        exact this.1
      refine Ex.one (Ex1.ret ((Ev.cmp (Ev.name 1 rfl rfl) Ev.int Op2.eqI).cast ?_))
      simp only [chkP, e2, e3]
    · rw [e] at e1; cases e1
  · rcases hcl with ⟨t2, e1, _⟩ | ⟨e1, e2⟩
    · rw [e] at e1; cases e1
    · rw [e] at e1; cases e1
      simp only [chkP, e2]
end Mine
end
section
open PySem PySem.W PyProof.Rows PySem.Calls
namespace Mine
set_option maxRecDepth 100000
set_option maxHeartbeats 8000000

noncomputable def o93 : { o : Obj // ∀ P, (KH P).lookup 93 = some o } := ⟨_, fun P => rfl⟩
noncomputable def f93 : { fd : FuncData // o93.1.data = .func fd } := ⟨_, rfl⟩
noncomputable def b93 : { b : List Stmt // f93.1.body = .stmts b } := ⟨_, rfl⟩
theorem fn3 {fd : FuncData} {p q r : Str} (h : ∀ u v w : Value, bindArgs fd ⟨[u, v, w], []⟩ = pure [(p, u), (q, v), (r, w)]) : ∀ vs : List Value, vs.length = [p, q, r].length → bindArgs fd ⟨vs, []⟩ = pure ([p, q, r].zip vs)
  | [u, v, w], _ => h u v w
  | [], e => by cases e
  | [_], e => by cases e
  | [_, _], e => by cases e
  | _ :: _ :: _ :: _ :: _, e => by cases e
theorem N93 : Fn f93.1 ["rows", "e", "x"] ["hidden", "ends", "typed", "k", "read", "behind", "dots"] where
  kinds := by decide +kernel
  nd := by decide +kernel
  dbg := by decide +kernel
  cn := by decide +kernel
  kind := rfl
  bind := fn3 fun u v w => rfl
noncomputable abbrev D93 (C : Cx) (L : Addr) : Cx := C.into f93.1 93 L (([("rows" : Str), ("e" : Str), ("x" : Str)] : List Str) ++ ([("hidden" : Str), ("ends" : Str), ("typed" : Str), ("k" : Str), ("read" : Str), ("behind" : Str), ("dots" : Str)] : List Str))

noncomputable def hidP : List Str := [⟨#[34, 34]⟩, ⟨#[34, 46, 34]⟩, ⟨#[34, 92, 34, 34]⟩, ⟨#[34, 10, 46, 34]⟩]
noncomputable def endP : List Str := [⟨#[10]⟩, ⟨#[13]⟩, ⟨#[13, 10]⟩]
structure GrT where
  typed : Str
  kv : VV
noncomputable abbrev strsP (l : List Str) : PV := .lst (l.map .str)
noncomputable abbrev grV (rows : List Str) (e x : Int) (t : GrT) : List VV := [.p (strsP rows), .p (.int e), .p (.int x), .p (strsP hidP), .p (strsP endP), .p (.str t.typed), t.kv, .u, .u, .u]
/-- what is typed for a row -/
noncomputable def typ1 (rows : List Str) (e x : Int) (k : Int) (t : Str) : Str :=
  (if decide (k < e) || decide (e + 1 < k) then t ++ hidP.getD ((k + x.fdiv 60).fmod 4).toNat ⟨#[]⟩ else t)
    ++ (rows.getD k.toNat ⟨#[]⟩ ++ endP.getD ((k + x.fdiv 240).fmod 3).toNat ⟨#[]⟩)
noncomputable def grSt (rows : List Str) (e x : Int) (t : GrT) (d : PV) : GrT := match d with
  | .int k => ⟨typ1 rows e x k t.typed, .p (.int k)⟩
  | _ => t
noncomputable def typedP (rows : List Str) (e x : Int) : Str := ((rangeL 0 rows.length).foldl (grSt rows e x) ⟨⟨#[10, 13]⟩, .u⟩).typed
noncomputable def readP (rows : List Str) (e x : Int) : List Str := pick (Txt.split (stripP ⟨(dotted true (normed (typedP rows e x).cps.toList)).toArray⟩) ⟨#[13, 10]⟩) (some 2) (some (-1)) none

theorem getD_len {l : List Str} {m : Nat} (h : ∀ r ∈ l, r.length ≤ m) (i : Nat) : (l.getD i ⟨#[]⟩).length ≤ m := by
  by_cases hi : i < l.length
  · simp [hi]; exact h _ (List.getElem_mem hi)
  · simp [Nat.le_of_not_lt hi]; exact Nat.zero_le _
theorem app_len (a b : Str) : (a ++ b).length = a.length + b.length := by show (a.cps ++ b.cps).size = _; simp [Str.length]
theorem typ1_len {rows : List Str} (h : ∀ r ∈ rows, r.length ≤ 20) (e x k : Int) (t : Str) : (typ1 rows e x k t).length ≤ t.length + 26 := by
  have h1 := getD_len (l := hidP) (m := 4) (by decide) ((k + x.fdiv 60).fmod 4).toNat
  have h2 := getD_len h k.toNat
  have h3 := getD_len (l := endP) (m := 2) (by decide) ((k + x.fdiv 240).fmod 3).toNat
  unfold typ1
  split <;> simp only [app_len] <;> omega
theorem get_str {l : List Str} {i : Nat} (h : i < l.length) : (l.map PV.str)[i]? = some (.str (l.getD i ⟨#[]⟩)) := by simp [h]

theorem gr_loop {C : Cx} {mb : Str → Option Value} {n : Nat} (B : Bs C.w C.hT mb) {L : Addr} {Mt : List Addr} (hr : Rm (D93 C L).A n) {rows : List Str} {e x : Int} (hlen : rows.length ≤ 20) (hrow : ∀ r ∈ rows, r.length ≤ 20) (hx : 0 ≤ x ∧ x < 720) {st : Stmt} (hst : b93.1[3]? = some st) :
    Ex1 (D93 C L) Mt st (grV rows e x ⟨⟨#[10, 13]⟩, .u⟩) (.next (grV rows e x ((rangeL 0 rows.length).foldl (grSt rows e x) ⟨⟨#[10, 13]⟩, .u⟩))) := by
  cases hst
  have G : Gl (D93 C L) (mgP C.w.params) mb := ⟨B.g, B.b, rfl, rfl⟩
  have hl : mb "len" = some (.builtin "len") := (B.bb _ (by decide +kernel)).trans boot_len
  have hg : mb "range" = some (.type "range") := (B.bb _ (by decide +kernel)).trans boot_range
  refine (Ex1.loop (T := GrT) (grV rows e x) (fun t d => .next (grSt rows e x t d)) (fun pre t => t.typed.length ≤ 2 + 26 * pre.length) ⟨⟨#[10, 13]⟩, .u⟩
    (Ev.callT (G.built rfl (mg_range _) hg rfl) (EvL.cons (Ev.callB (G.built rfl (mg_len _) hl rfl) (EvL.cons (Ev.name 0 rfl rfl) EvL.nil) (CallOK.lenL (by rw [List.length_map]; omega))) EvL.nil) CallOK.range1)
    (IterOK.range hr.hh (by omega) (by omega) (by rw [List.length_map]; omega) (by rw [List.length_map]; omega)) (Nat.le_refl _) (fun pre d post t hxs hI => ?_)).cast ?_
  · have hd : d ∈ rangeL 0 ((rows.map PV.str).length : Int) := by rw [hxs]; simp
    have hpl : pre.length < rows.length := by
      have h1 := congrArg List.length hxs
      simp [rangeL] at h1; omega
    obtain ⟨j, hj, rfl⟩ : ∃ j : Nat, j < rows.length ∧ d = .int (0 + (j : Int)) := by
      obtain ⟨j, hj, e'⟩ := List.mem_map.mp hd
      exact ⟨j, by simpa using hj, e'.symm⟩
    generalize hk : (0 + (j : Int)) = k at *
    have hk0 : 0 ≤ k := by omega
    have hkn : k.toNat < rows.length := by omega
    have h60 : Builtin.divisionGoesByPylong x 60 = false := by
      obtain ⟨m, rfl⟩ := Int.eq_ofNat_of_zero_le hx.1
      have : ∀ m : Fin 720, Builtin.divisionGoesByPylong (m.val : Int) 60 = false := by decide +kernel
      exact this ⟨m, by omega⟩
    have h240 : Builtin.divisionGoesByPylong x 240 = false := by
      obtain ⟨m, rfl⟩ := Int.eq_ofNat_of_zero_le hx.1
      have : ∀ m : Fin 720, Builtin.divisionGoesByPylong (m.val : Int) 240 = false := by decide +kernel
      exact this ⟨m, by omega⟩
    have m4 := Int.fmod_nonneg_of_pos (k + x.fdiv 60) (b := 4) (by omega)
    have m4' := Int.fmod_lt_of_pos (k + x.fdiv 60) (b := 4) (by omega)
    have m3 := Int.fmod_nonneg_of_pos (k + x.fdiv 240) (b := 3) (by omega)
    have m3' := Int.fmod_lt_of_pos (k + x.fdiv 240) (b := 3) (by omega)
    have b1 := getD_len (l := hidP) (m := 4) (by decide) ((k + x.fdiv 60).fmod 4).toNat
    have b2 := getD_len hrow k.toNat
    have b3 := getD_len (l := endP) (m := 2) (by decide) ((k + x.fdiv 240).fmod 3).toNat
    have hsz : ∀ m : Nat, m ≤ 1000 → m ≤ sizeLine := fun m h => Nat.le_trans h (by decide)
    refine ⟨⟨_, Asg.name 6 rfl, ?_⟩, fun t' ht => ?_⟩
    · refine Ex.ifs (b := decide (k < e) || decide (e + 1 < k)) (Ts.or (Ts.cmp (Ev.name 6 rfl rfl) (Ev.name 1 rfl rfl) Op2.ltI) (fun _ => Ts.cmp (Ev.name 6 rfl rfl) (Ev.bin (Ev.name 1 rfl rfl) Ev.int Op2.addI) Op2.gtI)) (fun hb => ?_) (fun hb => ?_)
      · refine Ex.seq (Ex1.aug 5 rfl rfl (Ev.subL (Ev.name 3 rfl rfl) (Ev.bin (Ev.bin (Ev.name 6 rfl rfl) (Ev.bin (Ev.name 2 rfl rfl) Ev.int (Op2.divI (by decide) h60)) Op2.addI) Ev.int (Op2.modI (by decide))) (Op2.getL m4 (by omega) (get_str (by show _ < 4; omega)))) (Op2.iaddS (hsz _ (by omega)))) ?_
        refine Ex.one ((Ex1.aug 5 rfl rfl (Ev.bin (Ev.subL (Ev.name 0 rfl rfl) (Ev.name 6 rfl rfl) (Op2.getL hk0 (by omega) (get_str hkn))) (Ev.subL (Ev.name 4 rfl rfl) (Ev.bin (Ev.bin (Ev.name 6 rfl rfl) (Ev.bin (Ev.name 2 rfl rfl) Ev.int (Op2.divI (by decide) h240)) Op2.addI) Ev.int (Op2.modI (by decide))) (Op2.getL m3 (by omega) (get_str (by show _ < 3; omega)))) (Op2.addS (hsz _ (by omega)))) (Op2.iaddS (hsz _ (by simp only [app_len]; omega)))).cast ?_)
        simp only [LR.out, grSt, typ1, hb, if_true]; rfl
      · refine Ex.one ((Ex1.aug 5 rfl rfl (Ev.bin (Ev.subL (Ev.name 0 rfl rfl) (Ev.name 6 rfl rfl) (Op2.getL hk0 (by omega) (get_str hkn))) (Ev.subL (Ev.name 4 rfl rfl) (Ev.bin (Ev.bin (Ev.name 6 rfl rfl) (Ev.bin (Ev.name 2 rfl rfl) Ev.int (Op2.divI (by decide) h240)) Op2.addI) Ev.int (Op2.modI (by decide))) (Op2.getL m3 (by omega) (get_str (by show _ < 3; omega)))) (Op2.addS (hsz _ (by omega)))) (Op2.iaddS (hsz _ (by simp only [app_len]; omega)))).cast ?_)
        simp only [LR.out, grSt, typ1, hb, Bool.false_eq_true, if_false]; rfl
    · cases ht
      have := typ1_len hrow e x k t.typed
      simp only [grSt, List.length_append, List.length_singleton]; omega
  · rw [loopR_next, List.length_map]
end Mine
end
section
open PySem PySem.W PyProof.Rows PySem.Calls
namespace Mine
set_option maxRecDepth 100000
set_option maxHeartbeats 8000000

theorem pick_map {α β : Type} (f : α → β) (l : List α) (lo hi st : Option Int) : pick (l.map f) lo hi st = (pick l lo hi st).map f := by
  unfold pick
  rw [List.length_map, List.map_filterMap]
  congr 1
  funext i
  simp
theorem crlf : (Str.ofString "\r\n") = ⟨#[13, 10]⟩ := by decide +kernel
theorem dot1 : (Str.ofString ".") = ⟨#[46]⟩ := by decide +kernel

theorem hid_eq : ([Str.ofString "\"\"", Str.ofString "\".\"", Str.ofString "\"\\\"\"", Str.ofString "\"\n.\""] : List Str) = hidP := by decide +kernel
theorem end_eq : ([Str.ofString "\n", Str.ofString "\r", Str.ofString "\r\n"] : List Str) = endP := by decide +kernel
theorem nr : Str.ofString "\n\r" = ⟨#[10, 13]⟩ := by decide +kernel
theorem Ev.neg {C : Cx} {vals : List VV} {e : Expr} {i : Int} {pos : Pos} (x : Ev C vals e (.int i)) : Ev C vals (.UnaryOp .USub e pos) (.int (-i)) := .mk fun X s E Q F h =>
  UnaryOp_ (x.go X s E _ F fun v s₁ e₁ r₁ => by cases r₁; exact PySem.P.neg_int (h _ _ (e₁.trans (Ext.of fun _ _ e => e)) (.int _ _)))

noncomputable def quotP (rows : List Str) (e x : Int) : Str := ⟨(dotted true (normed (typedP rows e x).cps.toList)).toArray⟩
noncomputable def bhP (rd : List Str) (e : Int) : Str := rd.getD (e + 1).toNat ⟨#[]⟩
noncomputable def dtP (b : Str) : Int := (b.length : Int) - (Txt.lstripChars b ⟨#[46]⟩).length
noncomputable def grownP (rows : List Str) (e x : Int) : List Str :=
  pick (readP rows e x) none (some e) none ++ [(readP rows e x).getD e.toNat ⟨#[]⟩ ++ ⟨#[40]⟩, ⟨#[46]⟩, Txt.slice (bhP (readP rows e x) e) none (some (dtP (bhP (readP rows e x) e))) ++ ⟨#[41]⟩ ++ Txt.slice (bhP (readP rows e x) e) (some (dtP (bhP (readP rows e x) e))) none] ++ pick (readP rows e x) (some (e + 2)) none none
structure GrF (rows : List Str) (e x : Int) : Prop where
  he0 : 0 ≤ e
  he1 : e + 1 < rows.length
  hlen : rows.length ≤ 20
  hrow : ∀ r ∈ rows, r.length ≤ 20
  hx : 0 ≤ x ∧ x < 720
  ht : (typedP rows e x).length ≤ 1000
  hn : (normed (typedP rows e x).cps.toList).length ≤ 1000
  hq : (quotP rows e x).length ≤ 1000
  hok : escOK false (quotP rows e x).cps.toList = true
  hJ : JoinOk ⟨#[]⟩ (stRes (quotP rows e x)) = true
  hs : (stripP (quotP rows e x)).length ≤ 1000
  hsp : (Txt.split (stripP (quotP rows e x)) ⟨#[13, 10]⟩).length ≤ 1000
  hrd : (readP rows e x).length = rows.length
  hrr : ∀ r ∈ readP rows e x, r.length ≤ 100
  z1 : (pick (readP rows e x) none (some e) none).length ≤ 100
  z2 : (pick (readP rows e x) (some (e + 2)) none none).length ≤ 100
  z3 : (Txt.slice (bhP (readP rows e x) e) none (some (dtP (bhP (readP rows e x) e)))).length ≤ 200
  z4 : (Txt.slice (bhP (readP rows e x) e) (some (dtP (bhP (readP rows e x) e))) none).length ≤ 200
  z5 : (Txt.lstripChars (bhP (readP rows e x) e) ⟨#[46]⟩).length ≤ 200

theorem ok_grown {C : Cx} {mb : Str → Option Value} {n : Nat} (B : Bs C.w C.hT mb) (hr : Rm C.A (n + 5)) {rows : List Str} {e x : Int} (H : GrF rows e x) : CallOK C (.ref 93) [strsP rows, .int e, .int x] (strsP (grownP rows e x)) := by
  refine CallOK.fn (ps := ["rows", "e", "x"]) (rest := ["hidden", "ends", "typed", "k", "read", "behind", "dots"]) 7 N93 (n := n + 4) hr (B.kx _ _ (o93.2 _)) f93.2 B.lim (code_of B rfl rfl rfl rfl) b93.2 rfl rfl (fun L => ?_)
  have G : Gl (D93 C L) (mgP C.w.params) mb := ⟨B.g, B.b, rfl, rfl⟩
  have hr2 : Rm (D93 C L).A (n + 4) := hr.deeper
  refine Ex.seq (Ex1.asg 3 ((Ev.list (EvL.cons Ev.str (EvL.cons Ev.str (EvL.cons Ev.str (EvL.cons Ev.str EvL.nil)))) (by show 4 ≤ sizeLine; decide)).cast (d' := strsP hidP) (congrArg strsP hid_eq)) rfl) ?_
  refine Ex.seq (Ex1.asg 4 ((Ev.list (EvL.cons Ev.str (EvL.cons Ev.str (EvL.cons Ev.str EvL.nil))) (by show 3 ≤ sizeLine; decide)).cast (d' := strsP endP) (congrArg strsP end_eq)) rfl) ?_
  refine Ex.seq (Ex1.asg 5 (Ev.str.cast (d' := .str ⟨#[10, 13]⟩) (congrArg PV.str nr)) rfl) ?_
  refine Ex.seq (gr_loop (C := C) B hr2 H.hlen H.hrow H.hx rfl) ?_
  refine Ex.seq (Ex1.asg 7 ((Ev.sliceL (Ev.meth (Ev.callF (G.glob (v := .ref 45) rfl (mg_45 _) rfl) (B.kx _ _ (o45.2 _)) f45.2 (EvL.cons (Ev.callF (G.glob (v := .ref 69) rfl (mg_69 _) rfl) (B.kx _ _ (o69.2 _)) f69.2 (EvL.cons (Ev.name 5 rfl rfl) EvL.nil) (ok_quotedata (C := D93 C L) B (n := n + 3) hr2 (typedP rows e x) H.ht H.hn)) EvL.nil) (ok_strip (C := D93 C L) B (n := n + 1) hr2 (quotP rows e x) H.hq H.hok H.hJ)) (EvL.cons (Ev.str.cast (d' := .str ⟨#[13, 10]⟩) (by rw [crlf])) EvL.nil) (CallOK.split (by decide) (Nat.le_trans H.hs (by decide)) (Nat.le_trans H.hsp (by decide))) ty_str PySem.F.plainAttrs_str PySem.F.slot_str_split PySem.F.type_str_split) (.some Ev.int) (.some (Ev.neg Ev.int)) .none (by intro q; cases q) (by rw [List.length_map]; exact Nat.le_trans H.hsp (by decide))).cast (d' := strsP (readP rows e x)) (congrArg PV.lst (pick_map _ _ _ _ _))) rfl) ?_
  have hl : mb "len" = some (.builtin "len") := (B.bb _ (by decide +kernel)).trans boot_len
  have hsz : ∀ m : Nat, m ≤ 1000 → m ≤ sizeLine := fun m h => Nat.le_trans h (by decide)
  have hrd := H.hrd
  have he0 := H.he0
  have he1 := H.he1
  have hlen := H.hlen
  have hbl : (bhP (readP rows e x) e).length ≤ 100 := getD_len H.hrr _
  have hel : ((readP rows e x).getD e.toNat ⟨#[]⟩).length ≤ 100 := getD_len H.hrr _
  have z1 := H.z1
  have z2 := H.z2
  have z3 := H.z3
  have z4 := H.z4
  have z5 := H.z5
  refine Ex.ifs (b := false) ((Ts.cmp (Ev.callB (G.built rfl (mg_len _) hl rfl) (EvL.cons (Ev.name 7 rfl rfl) EvL.nil) (CallOK.lenL (by rw [List.length_map]; omega))) (Ev.callB (G.built rfl (mg_len _) hl rfl) (EvL.cons (Ev.name 0 rfl rfl) EvL.nil) (CallOK.lenL (by rw [List.length_map]; omega))) Op2.neI).cast (by rw [List.length_map, List.length_map, hrd]; simp)) (fun q => nomatch q) (fun _ => ?_)
  refine Ex.seq (Ex1.asg 8 (Ev.subL (Ev.name 7 rfl rfl) (Ev.bin (Ev.name 1 rfl rfl) Ev.int Op2.addI) (Op2.getL (by omega) (by omega) (get_str (by omega)))) rfl) ?_
  refine Ex.seq (Ex1.asg 9 (Ev.bin (Ev.callB (G.built rfl (mg_len _) hl rfl) (EvL.cons (Ev.name 8 rfl rfl) EvL.nil) (CallOK.lenS (Nat.lt_of_le_of_lt hbl (by decide)))) (Ev.callB (G.built rfl (mg_len _) hl rfl) (EvL.cons (Ev.meth (Ev.name 8 rfl rfl) (EvL.cons (Ev.str.cast (d' := .str ⟨#[46]⟩) (by rw [dot1])) EvL.nil) (CallOK.lstrip (hsz _ (Nat.le_trans hbl (by decide)))) ty_str PySem.F.plainAttrs_str PySem.F.slot_str_lstrip PySem.F.type_str_lstrip) EvL.nil) (CallOK.lenS (Nat.lt_of_le_of_lt z5 (by decide)))) Op2.subI) rfl) ?_
  refine Ex.one (Ex1.ret ((Ev.bin (Ev.bin (Ev.sliceL (Ev.name 7 rfl rfl) .none (.some (Ev.name 1 rfl rfl)) .none (by intro q; cases q) (by rw [List.length_map]; exact hsz _ (by omega)))
    (Ev.list (EvL.cons (Ev.bin (Ev.subL (Ev.name 7 rfl rfl) (Ev.name 1 rfl rfl) (Op2.getL he0 (by omega) (get_str (by omega)))) (Ev.str.cast (d' := .str ⟨#[40]⟩) (by rw [open1])) (Op2.addS (hsz _ (by show _ + 1 ≤ 1000; omega))))
      (EvL.cons (Ev.str.cast (d' := .str ⟨#[46]⟩) (by rw [dot1]))
      (EvL.cons (Ev.bin (Ev.bin (Ev.sliceS (Ev.name 8 rfl rfl) .none (.some (Ev.name 9 rfl rfl)) (hsz _ (Nat.le_trans hbl (by decide)))) (Ev.str.cast (d' := .str ⟨#[41]⟩) (by rw [close1])) (Op2.addS (hsz _ (Nat.le_trans (Nat.add_le_add z3 (Nat.le_refl 1)) (by decide))))) (Ev.sliceS (Ev.name 8 rfl rfl) (.some (Ev.name 9 rfl rfl)) .none (hsz _ (Nat.le_trans hbl (by decide)))) (Op2.addS (hsz _ (by rw [app_len]; exact Nat.le_trans (Nat.add_le_add (Nat.add_le_add z3 (Nat.le_refl 1)) z4) (by decide))))) EvL.nil))) (by show 3 ≤ sizeLine; decide))
    (Op2.addL (by rw [pick_map, List.length_map]; exact hsz _ (by show _ + 3 ≤ 1000; omega))))
    (Ev.sliceL (Ev.name 7 rfl rfl) (.some (Ev.bin (Ev.name 1 rfl rfl) Ev.int Op2.addI)) .none .none (by intro q; cases q) (by rw [List.length_map]; exact hsz _ (by omega)))
    (Op2.addL (by rw [pick_map, pick_map, List.length_append, List.length_map, List.length_map]; exact hsz _ (by show _ + 3 + _ ≤ 1000; omega)))).cast ?_))
  rw [pick_map, pick_map]
  simp only [grownP, strsP, List.map_append, List.map_cons, List.map_nil]
  rfl
end Mine
end
section
open PySem PySem.W PyProof.Rows PySem.Calls
namespace Mine
set_option maxRecDepth 100000
set_option maxHeartbeats 8000000

noncomputable def o98 : { o : Obj // ∀ P, (KH P).lookup 98 = some o } := ⟨_, fun P => rfl⟩
noncomputable def f98 : { fd : FuncData // o98.1.data = .func fd } := ⟨_, rfl⟩
noncomputable def b98 : { b : List Stmt // f98.1.body = .stmts b } := ⟨_, rfl⟩
theorem N98 : Fn f98.1 ["row"] ["numbers", "k", "size"] where
  kinds := by decide +kernel
  nd := by decide +kernel
  dbg := by decide +kernel
  cn := by decide +kernel
  kind := rfl
  bind := fn1 fun v => rfl
noncomputable abbrev D98 (C : Cx) (L : Addr) : Cx := C.into f98.1 98 L (([("row" : Str)] : List Str) ++ ([("numbers" : Str), ("k" : Str), ("size" : Str)] : List Str))

noncomputable def esT (P : Params) : { p : Array DictEntry × Nat // (KH P).lookup 70 = some { cls := .type "dict", data := .dict p.1 p.2 } } := ⟨(_, _), rfl⟩
noncomputable def tokV (P : Params) : Str → Option Value := findBy Value.isStrOf (esT P).1.1
theorem key_one (w : World) (k : Str) (t : Tok) (v : Value) : ∃ k', Value.isStrOf k' (DictEntry.mk (PyData.keyHash w.params k) (.str k t) v).key = true ∧ (DictEntry.mk (PyData.keyHash w.params k) (.str k t) v).hash = hashStr w k' := ⟨k, by simp [Value.isStrOf], rfl⟩
theorem key_all (w : World) : ∀ e ∈ (esT w.params).1.1.toList, ∃ k, Value.isStrOf k e.key = true ∧ e.hash = hashStr w k := by
  show ∀ e ∈ [_, _, _, _, _, _, _, _, _, _, _, _, _, _, _, _, _, _, _, _, _, _, _, _, _, _, _, _, _, _, _, _, _, _, _, _, _, _, _, _, _, _, _, _, _, _, _, _], _
  repeat' (refine List.forall_mem_cons.mpr ⟨key_one w _ _ _, ?_⟩)
  exact fun _ h => nomatch h
theorem tok_map {w : World} {hT : Heap} {mb : Str → Option Value} (prog : Program) (B : Bs w hT mb) : hT.MapOf (PySem.strKind prog w) 70 (tokV w.params) :=
  ⟨_, _, _, B.kx _ _ (esT w.params).2, ⟨rfl, rfl, rfl⟩, rfl, (fun e he => key_all w e (Array.mem_toList_iff.mpr he)), fun k => rfl⟩

noncomputable def isT (P : Params) (x : Str) : Bool := (tokV P x).isSome
noncomputable def szP (P : Params) (row : Str) (k : Int) : Int := if isT P (Txt.slice row (some k) (some (k + 3))) then 3 else if isT P (Txt.slice row (some k) (some (k + 2))) then 2 else 1
noncomputable def numP (P : Params) (x : Str) : Int := match tokV P x with | some (.int v _) => v | _ => -1
structure NT where
  k : Int
  nums : List Int
  sv : VV
noncomputable def ntS (P : Params) (row : Str) (t : NT) : NT := ⟨t.k + szP P row t.k, t.nums ++ [numP P (Txt.slice row (some t.k) (some (t.k + szP P row t.k)))], .p (.int (szP P row t.k))⟩
noncomputable def numI (P : Params) (row : Str) : Nat → NT
  | 0 => ⟨0, [], .u⟩
  | i + 1 => ntS P row (numI P row i)
noncomputable abbrev numV (row : Str) (a : Addr) (t : NT) : List VV := [.p (.str row), .o a (t.nums.map .int), .p (.int t.k), t.sv]
theorem numI_len (P : Params) (row : Str) : ∀ i, (numI P row i).nums.length = i
  | 0 => rfl
  | i + 1 => by simp [numI, ntS, numI_len P row i]
theorem numI_plain (P : Params) (row : Str) (a : Addr) : ∀ i, noOwn ((numV row a (numI P row i)).set 1 .u) = true
  | 0 => rfl
  | i + 1 => rfl

theorem ok_numbers {C : Cx} {mb : Str → Option Value} {n m : Nat} (B : Bs C.w C.hT mb) (hr : Rm C.A (n + 2)) (row : Str) (hrow : row.length ≤ 100) (hm : m ≤ 100) (hc : ∀ i, i < m → (numI C.w.params row i).k < row.length) (hd : ¬ (numI C.w.params row m).k < row.length)
    (hv : ∀ i, i < m → tokV C.w.params (Txt.slice row (some (numI C.w.params row i).k) (some ((numI C.w.params row i).k + szP C.w.params row (numI C.w.params row i).k))) = none ∨ ∃ v t, tokV C.w.params (Txt.slice row (some (numI C.w.params row i).k) (some ((numI C.w.params row i).k + szP C.w.params row (numI C.w.params row i).k))) = some (.int v t)) :
    CallOK C (.ref 98) [.str row] (.lst ((numI C.w.params row m).nums.map .int)) := by
  refine CallOK.fn (ps := ["row"]) (rest := ["numbers", "k", "size"]) 3 N98 (n := n + 1) hr (B.kx _ _ (o98.2 _)) f98.2 B.lim (code_of B rfl rfl rfl rfl) b98.2 rfl rfl (fun L => ?_)
  have G : Gl (D98 C L) (mgP C.w.params) mb := ⟨B.g, B.b, rfl, rfl⟩
  have hr2 : Rm (D98 C L).A (n + 1) := hr.deeper
  have hl : mb "len" = some (.builtin "len") := (B.bb _ (by decide +kernel)).trans boot_len
  have hmx : mb "max" = some (.builtin "max") := (B.bb _ (by decide +kernel)).trans boot_max
  have hsz : row.length ≤ sizeLine := Nat.le_trans hrow (by decide)
  refine Ex.own 1 rfl fun a hna => Ex.seq (Ex1.asg 2 Ev.int rfl) ?_
  refine Ex.seq (Ex1.whl (fun i => numV row a (numI C.w.params row i)) m (fun i hi => (Ts.cmp (Ev.name 2 rfl rfl) (Ev.callB (G.built rfl (mg_len _) hl rfl) (EvL.cons (Ev.name 0 rfl rfl) EvL.nil) (CallOK.lenS (Nat.lt_of_le_of_lt hrow (by decide)))) Op2.ltI).cast (decide_eq_true (hc i hi)))
    ((Ts.cmp (Ev.name 2 rfl rfl) (Ev.callB (G.built rfl (mg_len _) hl rfl) (EvL.cons (Ev.name 0 rfl rfl) EvL.nil) (CallOK.lenS (Nat.lt_of_le_of_lt hrow (by decide)))) Op2.ltI).cast (decide_eq_false hd)) (fun i hi => ?_)) ?_
  · generalize ht : numI C.w.params row i = t at *
    have hmap := tok_map C.prog B
    refine Ex.seq (Ex1.asg 3 (Ev.callB (G.built rfl (mg_max _) hmx rfl) (EvL.cons ((Ev.bin (Ev.list (EvL.cons Ev.int EvL.nil) (by show 1 ≤ sizeLine; decide)) (Ev.ofComp (CompOK.one (locs := ["more"]) (frees := ["row", "k"]) (fds := [.str row, .int t.k]) (xs := [.int 2, .int 3])
      (fun d => match d with | .int m => if isT C.w.params (Txt.slice row (some t.k) (some (t.k + m))) then some d else none | _ => none) ?S (Ev.tuple (EvL.cons Ev.int (EvL.cons Ev.int EvL.nil)) le2) (IterOK.tuple ?_) le2 ?turn)) (Op2.addL ?_)).cast (d' := .lst (([1] ++ ([2, 3].filter fun m => isT C.w.params (Txt.slice row (some t.k) (some (t.k + m))))).map .int)) ?_) EvL.nil) (CallOK.max (m := szP C.w.params row t.k) hr2.hh ?_ ?_)) rfl) ?_
    case S =>
      exact { kind := rfl, names := by decide +kernel, nocell := by decide +kernel, loc := by decide +kernel, len := rfl
              fre := fun j x d h1 h2 => by
                match j with
                | 0 => cases h1; cases h2; exact ⟨rfl, rfl, 0, rfl, rfl⟩
                | 1 => cases h1; cases h2; exact ⟨rfl, rfl, 2, rfl, rfl⟩
                | j + 2 => cases h1
              all := fun x hx => by simp at hx; rcases hx with rfl | rfl <;> simp
              nd := by decide +kernel, dbg := by decide +kernel }
    case turn =>
      intro cl Lc x hx
      obtain ⟨q, rfl⟩ : ∃ q : Int, x = .int q := by simp at hx; rcases hx with rfl | rfl <;> exact ⟨_, rfl⟩
      refine ⟨_, isT C.w.params (Txt.slice row (some t.k) (some (t.k + q))), Asg.name 0 rfl (.inl rfl), .one (Ts.inD (d := 70) (Ev.sliceS (Ev.name 1 rfl rfl) (.some (Ev.name 2 rfl rfl)) (.some (Ev.bin (Ev.name 2 rfl rfl) (Ev.name 0 rfl rfl) Op2.addI)) hsz) ?g hmap rfl), fun hb => ⟨.int q, by simp only [hb, if_true], Ev.name 0 rfl rfl⟩, fun hb => by simp only [hb, Bool.false_eq_true, if_false], fun j y hj => ?j⟩
      case g => exact Gl.glob (mg := mgP C.w.params) (mb := mb) ⟨B.g, B.b, rfl, rfl⟩ rfl (mg_70 _) rfl
      match j with
      | 0 => exact .inl (by cases hj; rfl)
      | 1 => exact .inr hj
      | 2 => exact .inr hj
      | j + 3 => cases hj
    · exact hr2.hh
    · refine Nat.le_trans (Nat.add_le_add_left (List.length_filterMap_le _ _) _) ?_
      show 3 ≤ sizeLine
      decide
    · cases h2 : isT C.w.params (Txt.slice row (some t.k) (some (t.k + 2))) <;> cases h3 : isT C.w.params (Txt.slice row (some t.k) (some (t.k + 3))) <;> simp [h2, h3]
    · unfold szP
      cases h2 : isT C.w.params (Txt.slice row (some t.k) (some (t.k + 2))) <;> cases h3 : isT C.w.params (Txt.slice row (some t.k) (some (t.k + 3))) <;> simp [h2, h3]
    · unfold szP
      cases h2 : isT C.w.params (Txt.slice row (some t.k) (some (t.k + 2))) <;> cases h3 : isT C.w.params (Txt.slice row (some t.k) (some (t.k + 3))) <;> simp [h2, h3]
    · have hvi := hv i hi
      rw [ht] at hvi
      have hnl : t.nums.length = i := by rw [← ht]; exact numI_len _ _ _
      refine Ex.seq (Ex1.app 1 rfl rfl (d := .int (numP C.w.params (Txt.slice row (some t.k) (some (t.k + szP C.w.params row t.k))))) rfl (Ev.getD (d := 70) (G.glob rfl (mg_70 _) rfl) hmap rfl (Ev.sliceS (Ev.name 0 rfl rfl) (.some (Ev.name 2 rfl rfl)) (.some (Ev.bin (Ev.name 2 rfl rfl) (Ev.name 3 rfl rfl) Op2.addI)) hsz) (Ev.neg Ev.int) ?_) (by rw [List.length_map, hnl]; exact Nat.lt_of_lt_of_le hi (Nat.le_trans hm (by decide)))) ?_
      · rcases hvi with h | ⟨v, u, h⟩
        · exact .inr ⟨h, by simp [numP, h]⟩
        · exact .inl ⟨_, h, fun X h' => by rw [show numP C.w.params (Txt.slice row (some t.k) (some (t.k + szP C.w.params row t.k))) = v by simp [numP, h]]; exact .int _ _⟩
      · refine Ex.one ((Ex1.aug 2 rfl rfl (Ev.name 3 rfl rfl) Op2.iaddI).cast ?_)
        show Out.next _ = Out.next (numV row a (ntS C.w.params row (numI C.w.params row i)))
        rw [ht]
        simp [ntS, numV]
  · exact Ex.freeze 1 rfl rfl (numI_plain _ _ _ m) hna (Ex.one (Ex1.ret (Ev.name 1 rfl rfl)))
end Mine
end
section
open PySem PySem.W PyProof.Rows PySem.Calls
namespace Mine
set_option maxRecDepth 100000
set_option maxHeartbeats 8000000

noncomputable def o103 : { o : Obj // ∀ P, (KH P).lookup 103 = some o } := ⟨_, fun P => rfl⟩
noncomputable def f103 : { fd : FuncData // o103.1.data = .func fd } := ⟨_, rfl⟩
noncomputable def b103 : { b : List Stmt // f103.1.body = .stmts b } := ⟨_, rfl⟩
theorem N103 : Fn f103.1 ["rows"] ["riders", "signs", "pieces", "mates", "p", "q"] where
  kinds := by decide +kernel
  nd := by decide +kernel
  dbg := by decide +kernel
  cn := by decide +kernel
  kind := rfl
  bind := fn1 fun v => rfl
noncomputable abbrev D103 (C : Cx) (L : Addr) : Cx := C.into f103.1 103 L (([("rows" : Str)] : List Str) ++ ([("riders" : Str), ("signs" : Str), ("pieces" : Str), ("mates" : Str), ("p" : Str), ("q" : Str)] : List Str))

noncomputable def ridP : List Str := [⟨#[]⟩, ⟨#[34, 40, 34]⟩, ⟨#[92, 41, 92, 34]⟩, ⟨#[34, 41, 34]⟩]
/-- a row's brackets, with the row's number -/
noncomputable abbrev sg (p : Int × Str) : PV := .tup [.int p.1, .str p.2]
noncomputable def sgRow (rows : List Str) (k : Int) : List (Int × Str) := (Txt.lstripChars (rows.getD k.toNat ⟨#[]⟩) ⟨#[46]⟩).cps.toList.map fun c => (k, ⟨#[c]⟩)
noncomputable def signsP (rows : List Str) : List (Int × Str) := (List.range rows.length).flatMap fun (k : Nat) => sgRow rows (k : Int)
noncomputable def piecesP (sgs : List (Int × Str)) : List Str := (List.range sgs.length).map fun p => (sgs.getD p (0, ⟨#[]⟩)).2 ++ ridP.getD (((p : Int).fmod 4).toNat) ⟨#[]⟩
theorem rid_eq : ([Str.ofString "", Str.ofString "\"(\"", Str.ofString "\\)\\\"", Str.ofString "\")\""] : List Str) = ridP := by decide +kernel

noncomputable def sgG (rows : List Str) (d : PV) : List PV := match d with
  | .int k => (signs (Txt.lstripChars (rows.getD k.toNat ⟨#[]⟩) ⟨#[46]⟩)).filterMap fun y => some (.tup [.int k, y])
  | _ => []
theorem sg_flat (rows : List Str) : (rangeL 0 rows.length).flatMap (sgG rows) = (signsP rows).map sg := by
  unfold rangeL signsP
  rw [show ((rows.length : Int) - 0).toNat = rows.length by omega]
  induction (List.range rows.length) with
  | nil => rfl
  | cons k ks ih =>
    simp only [List.map_cons, List.flatMap_cons, List.map_append]
    rw [ih]
    congr 1
    simp only [sgG, sgRow, sg, signs, Int.zero_add]
    simp [List.filterMap_map, Function.comp_def, List.map_map]

noncomputable def pcF (sgs : List (Int × Str)) (d : PV) : Option PV := match d with
  | .int p => some (.str ((sgs.getD p.toNat (0, ⟨#[]⟩)).2 ++ ridP.getD (p.fmod 4).toNat ⟨#[]⟩))
  | _ => none
theorem pc_flat (sgs : List (Int × Str)) : (rangeL 0 sgs.length).filterMap (pcF sgs) = (piecesP sgs).map .str := by
  unfold rangeL piecesP
  rw [show ((sgs.length : Int) - 0).toNat = sgs.length by omega]
  induction (List.range sgs.length) with
  | nil => rfl
  | cons k ks ih =>
    simp only [List.map_cons]
    rw [List.filterMap_cons]
    simp only [pcF, Int.zero_add, Int.toNat_natCast]
    rw [← ih]
    simp [pcF]
theorem get_sg {l : List (Int × Str)} {i : Nat} (h : i < l.length) : (l.map sg)[i]? = some (sg (l.getD i (0, ⟨#[]⟩))) := by simp [h]

/-- facts of the rows, to be checked -/
structure MtF (rows : List Str) : Prop where
  hlen : rows.length ≤ 20
  hrow : ∀ r ∈ rows, r.length ≤ 20
  hsg : (signsP rows).length ≤ 100
  hone : ∀ p ∈ signsP rows, p.2.length ≤ 1
end Mine
end
section
open PySem PySem.W PyProof.Rows PySem.Calls
namespace Mine
set_option maxRecDepth 100000
set_option maxHeartbeats 8000000

/-- facts of a text that is handed to _check_parenthesis, to be checked -/
structure CkF (x : Str) : Prop where
  hx : x.length ≤ 1000
  hok : escOK false x.cps.toList = true
  hJ : JoinOk ⟨#[]⟩ (stRes x) = true
  hok2 : escOK false (stripP x).cps.toList = true
theorem ok_checkF {C : Cx} {mb : Str → Option Value} {n : Nat} (B : Bs C.w C.hT mb) (hr : Rm C.A (n + 4)) (x : Str) (H : CkF x) : CallOK C (.ref 52) [.str x] (.bool (chkP x)) := ok_check B hr x H.hx H.hok H.hJ H.hok2

structure MT where
  ms : List (Int × Int)
  pv : VV
  qv : VV
noncomputable abbrev mtV (rows : List Str) (a : Addr) (t : MT) : List VV := [.p (strsP rows), .p (strsP ridP), .p (.lst ((signsP rows).map sg)), .p (strsP (piecesP (signsP rows))), .o a (t.ms.map pr), t.pv, t.qv]
noncomputable def sgAt (rows : List Str) (k : Int) : Int × Str := (signsP rows).getD k.toNat (0, ⟨#[]⟩)
noncomputable def segP (rows : List Str) (p q : Int) : Str := Txt.join ⟨#[]⟩ (pick (piecesP (signsP rows)) (some p) (some (q + 1)) none)
noncomputable def inStep (rows : List Str) (p : Int) (t : MT) (d : PV) : LR MT := match d with
  | .int q => if (sgAt rows q).2 == ⟨#[41]⟩ && chkP (segP rows p q) then .brk { t with ms := t.ms ++ [((sgAt rows p).1, (sgAt rows q).1)], qv := .p (.int q) } else .next { t with qv := .p (.int q) }
  | _ => .next t
noncomputable def inRun (rows : List Str) (p : Int) : List PV → MT → MT
  | [], t => t
  | d :: ds, t => match inStep rows p t d with
    | .next t' => inRun rows p ds t'
    | .brk t' => t'
    | .ret _ => t
theorem in_loop (rows : List Str) (a : Addr) (p : Int) : ∀ (ds : List PV) (t : MT), loopR (mtV rows a) (inStep rows p) ds t = .next (mtV rows a (inRun rows p ds t))
  | [], t => rfl
  | d :: ds, t => by
    simp only [loopR, inRun]
    cases h : inStep rows p t d with
    | next t' => exact in_loop rows a p ds t'
    | brk t' => rfl
    | ret v =>
      unfold inStep at h
      split at h
      · split at h <;> cases h
      · cases h
noncomputable def outSt (rows : List Str) (t : MT) (d : PV) : MT := match d with
  | .int p => if (sgAt rows p).2 == ⟨#[40]⟩ then inRun rows p (rangeL (p + 1) (signsP rows).length) { t with pv := .p (.int p) } else { t with pv := .p (.int p) }
  | _ => t
noncomputable def matesL (rows : List Str) : List (Int × Int) := ((rangeL 0 (signsP rows).length).foldl (outSt rows) ⟨[], .u, .u⟩).ms
end Mine
end
section
open PySem PySem.W PyProof.Rows PySem.Calls
namespace Mine
set_option maxRecDepth 100000
set_option maxHeartbeats 8000000

theorem inRun_len (rows : List Str) (p : Int) : ∀ (ds : List PV) (t : MT), (inRun rows p ds t).ms.length ≤ t.ms.length + 1
  | [], t => Nat.le_succ _
  | d :: ds, t => by
    simp only [inRun]
    cases h : inStep rows p t d with
    | next t' =>
      have : t'.ms = t.ms := by
        unfold inStep at h
        split at h
        · split at h <;> cases h; rfl
        · cases h; rfl
      have ih := inRun_len rows p ds t'
      rw [this] at ih; exact ih
    | brk t' =>
      unfold inStep at h
      split at h
      · split at h <;> cases h; simp
      · cases h
    | ret v => exact Nat.le_succ _
theorem inRun_plain (rows : List Str) (p : Int) : ∀ (ds : List PV) (t : MT), noOwn [t.pv, t.qv] = true → noOwn [(inRun rows p ds t).pv, (inRun rows p ds t).qv] = true
  | [], t, ht => ht
  | d :: ds, t, ht => by
    have hp : noOwn [t.pv] = true := by simp [noOwn] at ht ⊢; exact ht.1
    have hq : ∀ q : Int, noOwn [t.pv, .p (.int q)] = true := fun q => by simp [noOwn] at hp ⊢; exact hp
    simp only [inRun]
    cases h : inStep rows p t d with
    | next t' =>
      refine inRun_plain rows p ds t' ?_
      unfold inStep at h
      split at h
      · split at h <;> cases h; exact hq _
      · cases h; exact ht
    | brk t' =>
      unfold inStep at h
      split at h
      · split at h <;> cases h; exact hq _
      · cases h
    | ret v => exact ht
theorem outSt_len (rows : List Str) (t : MT) (d : PV) : (outSt rows t d).ms.length ≤ t.ms.length + 1 := by
  unfold outSt
  split
  · split
    · exact inRun_len rows _ _ _
    · exact Nat.le_succ _
  · exact Nat.le_succ _
theorem outSt_plain (rows : List Str) (t : MT) (d : PV) (h : noOwn [t.pv, t.qv] = true) : noOwn [(outSt rows t d).pv, (outSt rows t d).qv] = true := by
  have hq : ∀ p : Int, noOwn [.p (.int p), t.qv] = true := fun p => by simp [noOwn] at h ⊢; exact h.2
  unfold outSt
  split
  · split
    · exact inRun_plain rows _ _ _ (hq _)
    · exact hq _
  · exact h
noncomputable def mtEnd (rows : List Str) : MT := (rangeL 0 (signsP rows).length).foldl (outSt rows) ⟨[], .u, .u⟩
theorem mtEnd_plain (rows : List Str) : noOwn [(mtEnd rows).pv, (mtEnd rows).qv] = true := by
  have : ∀ (l : List PV) (t : MT), noOwn [t.pv, t.qv] = true → noOwn [(l.foldl (outSt rows) t).pv, (l.foldl (outSt rows) t).qv] = true := by
    intro l
    induction l with
    | nil => intro t h; exact h
    | cons d l ih => intro t h; exact ih _ (outSt_plain rows t d h)
  exact this _ ⟨[], .u, .u⟩ rfl

/-- facts of a stretch, to be checked -/
structure SegF (rows : List Str) (p q : Int) : Prop where
  ck : CkF (segP rows p q)
  hj : JoinOk ⟨#[]⟩ (pick (piecesP (signsP rows)) (some p) (some (q + 1)) none) = true
noncomputable def SegAll (rows : List Str) : Prop := ∀ p q : Nat, p < q → q < (signsP rows).length → ((sgAt rows q).2 == ⟨#[41]⟩) = true → SegF rows p q

theorem rangeL_mem {a b : Int} {d : PV} (h : d ∈ rangeL a b) : ∃ j : Int, a ≤ j ∧ j < b ∧ d = .int j := by
  obtain ⟨j, hj, e⟩ := List.mem_map.mp h
  have := List.mem_range.mp hj
  exact ⟨a + (j : Int), by omega, by omega, e.symm⟩
theorem pieces_len (l : List (Int × Str)) : (piecesP l).length = l.length := by simp [piecesP]

theorem mt_loop {C : Cx} {mb : Str → Option Value} {n : Nat} (B : Bs C.w C.hT mb) {L : Addr} {Mt : List Addr} {a : Addr} (hr : Rm (D103 C L).A (n + 4)) {rows : List Str} (hsg : (signsP rows).length ≤ 100) (HS : SegAll rows) {st : Stmt} (hst : b103.1[6]? = some st) :
    Ex1 (D103 C L) Mt st (mtV rows a ⟨[], .u, .u⟩) (.next (mtV rows a (mtEnd rows))) := by
  cases hst
  have G : Gl (D103 C L) (mgP C.w.params) mb := ⟨B.g, B.b, rfl, rfl⟩
  have hl : mb "len" = some (.builtin "len") := (B.bb _ (by decide +kernel)).trans boot_len
  have hg : mb "range" = some (.type "range") := (B.bb _ (by decide +kernel)).trans boot_range
  refine (Ex1.loop (T := MT) (mtV rows a) (fun t d => .next (outSt rows t d)) (fun pre t => t.ms.length ≤ pre.length) ⟨[], .u, .u⟩
    (Ev.callT (G.built rfl (mg_range _) hg rfl) (EvL.cons (Ev.callB (G.built rfl (mg_len _) hl rfl) (EvL.cons (Ev.name 2 rfl rfl) EvL.nil) (CallOK.lenL (by rw [List.length_map]; omega))) EvL.nil) CallOK.range1)
    (IterOK.range hr.hh (by omega) (by omega) (by rw [List.length_map]; omega) (by rw [List.length_map]; omega)) (Nat.zero_le _) (fun pre d post t hxs hI => ?_)).cast ?_
  · have hd : d ∈ rangeL 0 (((signsP rows).map sg).length : Int) := by rw [hxs]; simp
    have hpl : pre.length < (signsP rows).length := by
      have h1 := congrArg List.length hxs
      simp [rangeL] at h1; omega
    obtain ⟨p, hp0, hp1, rfl⟩ := rangeL_mem hd
    rw [List.length_map] at hp1
    have hpn : p.toNat < (signsP rows).length := by omega
    refine ⟨⟨_, Asg.name 5 rfl, ?_⟩, fun t' ht => ?_⟩
    · refine Ex.one (Ex1.ifs (b := (sgAt rows p).2 == ⟨#[40]⟩) (Ts.cmp (Ev.subT (Ev.subL (Ev.name 2 rfl rfl) (Ev.name 5 rfl rfl) (Op2.getL hp0 (by omega) (get_sg hpn))) Ev.int (Op2.getT (by omega) (by omega) rfl)) (Ev.str.cast (d' := .str ⟨#[40]⟩) (by rw [open1])) Op2.eqS) (fun hc => ?_) (fun hc => ?_))
      · refine Ex.one ((Ex1.loop (T := MT) (mtV rows a) (inStep rows p) (fun _ t' => t'.ms = t.ms ∧ t'.pv = .p (.int p)) { t with pv := .p (.int p) }
          (Ev.callT (G.built rfl (mg_range _) hg rfl) (EvL.cons (Ev.bin (Ev.name 5 rfl rfl) Ev.int Op2.addI) (EvL.cons (Ev.callB (G.built rfl (mg_len _) hl rfl) (EvL.cons (Ev.name 2 rfl rfl) EvL.nil) (CallOK.lenL (by rw [List.length_map]; omega))) EvL.nil)) CallOK.range2)
          (IterOK.range hr.hh (by omega) (by omega) (by rw [List.length_map]; omega) (by rw [List.length_map]; omega)) ⟨rfl, rfl⟩ (fun pre2 d2 post2 t2 hxs2 hI2 => ?_)).cast ?_)
        · have hd2 : d2 ∈ rangeL (p + 1) (((signsP rows).map sg).length : Int) := by rw [hxs2]; simp
          obtain ⟨q, hq0, hq1, rfl⟩ := rangeL_mem hd2
          rw [List.length_map] at hq1
          have hqn : q.toNat < (signsP rows).length := by omega
          obtain ⟨ms2, pv2, qv2⟩ := t2
          obtain ⟨rfl, e2⟩ := hI2
          subst e2
          refine ⟨⟨_, Asg.name 6 rfl, ?_⟩, fun t' ht => ?_⟩
          · have hseg : ((sgAt rows q).2 == ⟨#[41]⟩) = true → SegF rows p q := fun hb => by
              have := HS p.toNat q.toNat (by omega) hqn (by rw [show ((q.toNat : Nat) : Int) = q by omega]; exact hb)
              rw [show ((q.toNat : Nat) : Int) = q by omega, show ((p.toNat : Nat) : Int) = p by omega] at this
              exact this
            refine Ex.one (Ex1.ifs (b := (sgAt rows q).2 == ⟨#[41]⟩ && chkP (segP rows p q)) (Ts.and (Ts.cmp (Ev.subT (Ev.subL (Ev.name 2 rfl rfl) (Ev.name 6 rfl rfl) (Op2.getL (by omega) (by omega) (get_sg hqn))) Ev.int (Op2.getT (by omega) (by omega) rfl)) (Ev.str.cast (d' := .str ⟨#[41]⟩) (by rw [close1])) Op2.eqS)
              (fun hb => Ts.val (Ev.callF (G.glob (v := .ref 52) rfl (mg_52 _) rfl) (B.kx _ _ (o52.2 _)) f52.2 (EvL.cons (Ev.meth (Ev.str.cast (d' := .str ⟨#[]⟩) (by rw [empty0])) (EvL.cons ((Ev.sliceL (Ev.name 3 rfl rfl) (.some (Ev.name 5 rfl rfl)) (.some (Ev.bin (Ev.name 6 rfl rfl) Ev.int Op2.addI)) .none (by intro q; cases q) (by rw [List.length_map, pieces_len]; exact Nat.le_trans hsg (by decide))).cast (congrArg PV.lst (pick_map _ _ _ _ _))) EvL.nil) (CallOK.join (hseg hb).hj) ty_str PySem.F.plainAttrs_str PySem.F.slot_str_join PySem.F.type_str_join) EvL.nil) (ok_checkF (C := D103 C L) B (n := n) hr (segP rows p q) (hseg hb).ck)))) (fun hb => ?_) (fun hb => ?_))
            · refine Ex.seq (Ex1.app 4 rfl rfl rfl (Ev.tuple (EvL.cons (Ev.subT (Ev.subL (Ev.name 2 rfl rfl) (Ev.name 5 rfl rfl) (Op2.getL hp0 (by omega) (get_sg hpn))) Ev.int (Op2.getT (by omega) (by omega) rfl)) (EvL.cons (Ev.subT (Ev.subL (Ev.name 2 rfl rfl) (Ev.name 6 rfl rfl) (Op2.getL (by omega) (by omega) (get_sg hqn))) Ev.int (Op2.getT (by omega) (by omega) rfl)) EvL.nil)) le2) (by rw [List.length_map]; exact Nat.lt_of_le_of_lt hI (Nat.lt_of_lt_of_le hpl (Nat.le_trans hsg (by decide))))) ?_
              refine Ex.last (Ex1.brk.cast ?_) ?_
              · simp only [inStep, hb, if_true, LR.out]
                simp [sgAt]
              · intro v hv
                simp only [inStep, hb, if_true, LR.out] at hv
                cases hv
            · refine Ex.nil.cast ?_
              simp only [inStep, hb, Bool.false_eq_true, if_false, LR.out]; rfl
          · unfold inStep at ht
            dsimp only at ht
            split at ht
            · cases ht
            · cases ht; exact ⟨rfl, rfl⟩
        · rw [in_loop, List.length_map]
          simp only [LR.out, outSt, hc, if_true]
      · refine Ex.nil.cast ?_
        simp only [LR.out, outSt, hc, Bool.false_eq_true, if_false]; rfl
    · cases ht
      have := outSt_len rows t (.int p)
      simp only [List.length_append, List.length_singleton]; omega
  · rw [loopR_next, List.length_map]; rfl
end Mine
end
section
open PySem PySem.W PyProof.Rows PySem.Calls
namespace Mine
set_option maxRecDepth 100000
set_option maxHeartbeats 8000000

/-- facts of the rows, to be checked -/
structure MtG (rows : List Str) (out : List (Int × Int)) : Prop where
  base : MtF rows
  c1 : CkF (Txt.join ⟨#[]⟩ (piecesP (signsP rows)))
  j1 : JoinOk ⟨#[]⟩ (piecesP (signsP rows)) = true
  v1 : chkP (Txt.join ⟨#[]⟩ (piecesP (signsP rows))) = true
  c2 : CkF (Txt.join ⟨#[]⟩ (pick (piecesP (signsP rows)) none none (some (-1))))
  j2 : JoinOk ⟨#[]⟩ (pick (piecesP (signsP rows)) none none (some (-1))) = true
  v2 : chkP (Txt.join ⟨#[]⟩ (pick (piecesP (signsP rows)) none none (some (-1)))) = false
  seg : SegAll rows
  s2 : 2 ≤ (mtEnd rows).ms.length
  s64 : (mtEnd rows).ms.length < 64
  kok : kasOK (ltOf (mtEnd rows).ms) (mtEnd rows).ms.length (kas_sort (mtEnd rows).ms.length) = true
  kp : (permOf (mtEnd rows).ms).size = (mtEnd rows).ms.length
  kout : (permOf (mtEnd rows).ms).toList.map (fun i => (mtEnd rows).ms[i]?) = out.map some

theorem mt_rest {C : Cx} {mb : Str → Option Value} {n : Nat} (B : Bs C.w C.hT mb) {L : Addr} {Mt : List Addr} (hr : Rm (D103 C L).A (n + 4)) {rows : List Str} {out : List (Int × Int)} (H : MtG rows out) {ss : List Stmt} (hss : b103.1.drop 3 = ss) :
    Ex (D103 C L) Mt ss [.p (strsP rows), .p (strsP ridP), .p (.lst ((signsP rows).map sg)), .p (strsP (piecesP (signsP rows))), .u, .u, .u] (.ret (.lst (out.map pr))) := by
  cases hss
  have G : Gl (D103 C L) (mgP C.w.params) mb := ⟨B.g, B.b, rfl, rfl⟩
  have hso : mb "sorted" = some (.builtin "sorted") := (B.bb _ (by decide +kernel)).trans boot_sorted
  have hsg := H.base.hsg
  have hpl : (piecesP (signsP rows)).length ≤ sizeLine := by rw [pieces_len]; exact Nat.le_trans hsg (by decide)
  refine Ex.ifs (b := false) ((Ts.cmp (Ev.callF (G.glob (v := .ref 52) rfl (mg_52 _) rfl) (B.kx _ _ (o52.2 _)) f52.2 (EvL.cons (Ev.meth (Ev.str.cast (d' := .str ⟨#[]⟩) (by rw [empty0])) (EvL.cons (Ev.name 3 rfl rfl) EvL.nil) (CallOK.join H.j1) ty_str PySem.F.plainAttrs_str PySem.F.slot_str_join PySem.F.type_str_join) EvL.nil) (ok_checkF (C := D103 C L) B (n := n) hr _ H.c1)) Ev.bool Op2.isNotB).cast (by rw [H.v1]; rfl)) (fun e => nomatch e) (fun _ => ?_)
  refine Ex.ifs (b := false) ((Ts.cmp (Ev.callF (G.glob (v := .ref 52) rfl (mg_52 _) rfl) (B.kx _ _ (o52.2 _)) f52.2 (EvL.cons (Ev.meth (Ev.str.cast (d' := .str ⟨#[]⟩) (by rw [empty0])) (EvL.cons ((Ev.sliceL (Ev.name 3 rfl rfl) .none .none (.some (Ev.neg Ev.int)) (by decide) (by rw [List.length_map]; exact hpl)).cast (congrArg PV.lst (pick_map _ _ _ _ _))) EvL.nil) (CallOK.join H.j2) ty_str PySem.F.plainAttrs_str PySem.F.slot_str_join PySem.F.type_str_join) EvL.nil) (ok_checkF (C := D103 C L) B (n := n) hr _ H.c2)) Ev.bool Op2.isNotB).cast (by rw [H.v2]; rfl)) (fun e => nomatch e) (fun _ => ?_)
  refine Ex.own 4 rfl fun a hna => ?_
  refine Ex.seq (mt_loop (C := C) B (n := n) hr hsg H.seg rfl) ?_
  have hno : noOwn ((mtV rows a (mtEnd rows)).set 4 .u) = true := by
    have h1 := mtEnd_plain rows
    generalize mtEnd rows = t at h1
    simpa [noOwn] using h1
  refine Ex.freeze 4 rfl rfl hno hna ?_
  exact Ex.one (Ex1.ret (Ev.callB (G.built rfl (mg_sorted _) hso rfl) (EvL.cons (Ev.name 4 rfl rfl) EvL.nil) (CallOK.sorted H.s2 H.s64 H.kok H.kp H.kout)))
end Mine
end
section
open PySem PySem.W PyProof.Rows PySem.Calls
namespace Mine
set_option maxRecDepth 100000
set_option maxHeartbeats 8000000

theorem ok_mates {C : Cx} {mb : Str → Option Value} {n : Nat} (B : Bs C.w C.hT mb) (hr : Rm C.A (n + 6)) {rows : List Str} {out : List (Int × Int)} (HG : MtG rows out) : CallOK C (.ref 103) [strsP rows] (.lst (out.map pr)) := by
  refine CallOK.fn (ps := ["rows"]) (rest := ["riders", "signs", "pieces", "mates", "p", "q"]) 6 N103 (n := n + 5) hr (B.kx _ _ (o103.2 _)) f103.2 B.lim (code_of B rfl rfl rfl rfl) b103.2 rfl rfl (fun L => ?_)
  have G : Gl (D103 C L) (mgP C.w.params) mb := ⟨B.g, B.b, rfl, rfl⟩
  have hr2 : Rm (D103 C L).A (n + 5) := hr.deeper
  have hl : mb "len" = some (.builtin "len") := (B.bb _ (by decide +kernel)).trans boot_len
  have hg : mb "range" = some (.type "range") := (B.bb _ (by decide +kernel)).trans boot_range
  have H := HG.base
  have hlen := H.hlen
  refine Ex.seq (Ex1.asg 1 ((Ev.list (EvL.cons Ev.str (EvL.cons Ev.str (EvL.cons Ev.str (EvL.cons Ev.str EvL.nil)))) (by show 4 ≤ sizeLine; decide)).cast (d' := strsP ridP) (congrArg strsP rid_eq)) rfl) ?_
  refine Ex.seq (Ex1.asg 2 ((Ev.ofComp (CompOK.two (locs := ["k", "sign"]) (frees := ["rows"]) (fds := [strsP rows]) (sgG rows) ?S
    (Ev.callT (G.built rfl (mg_range _) hg rfl) (EvL.cons (Ev.callB (G.built rfl (mg_len _) hl rfl) (EvL.cons (Ev.name 0 rfl rfl) EvL.nil) (CallOK.lenL (by rw [List.length_map]; omega))) EvL.nil) CallOK.range1)
    (IterOK.range hr2.hh (by omega) (by omega) (by rw [List.length_map]; omega) (by rw [List.length_map]; omega)) ?_ ?turn)).cast (d' := .lst ((signsP rows).map sg)) ?_) rfl) ?_
  case S =>
    exact { kind := rfl, names := by decide +kernel, nocell := by decide +kernel, loc := by decide +kernel, len := rfl
            fre := fun j x d h1 h2 => by
              match j with
              | 0 => cases h1; cases h2; exact ⟨rfl, rfl, 0, rfl, rfl⟩
              | j + 1 => cases h1
            all := fun x hx => by simp at hx; subst hx; simp
            nd := by decide +kernel, dbg := by decide +kernel }
  case turn =>
    intro cl Lc x hx
    obtain ⟨j, hj, rfl⟩ : ∃ j : Nat, j < rows.length ∧ x = .int (0 + (j : Int)) := by
      obtain ⟨j, hj, e'⟩ := List.mem_map.mp hx
      exact ⟨j, by simpa using hj, e'.symm⟩
    generalize hk : (0 + (j : Int)) = k at *
    have hk0 : 0 ≤ k := by omega
    have hkn : k.toNat < rows.length := by omega
    refine ⟨_, .str (Txt.lstripChars (rows.getD k.toNat ⟨#[]⟩) ⟨#[46]⟩), signs (Txt.lstripChars (rows.getD k.toNat ⟨#[]⟩) ⟨#[46]⟩), fun y => some (.tup [.int k, y]), Asg.name 0 rfl (.inl rfl), ?_, Ev.meth (Ev.subL (Ev.name 2 rfl rfl) (Ev.name 0 rfl rfl) (Op2.getL hk0 (by omega) (get_str hkn))) (EvL.cons (Ev.str.cast (d' := .str ⟨#[46]⟩) (by rw [dot1])) EvL.nil) (CallOK.lstrip (Nat.le_trans (getD_len H.hrow _) (by decide))) ty_str PySem.F.plainAttrs_str PySem.F.slot_str_lstrip PySem.F.type_str_lstrip, IterOK.str hr2.hh, rfl, fun y hy => ⟨_, true, Asg.name 1 rfl (.inl rfl), .nil, fun _ => ⟨_, rfl, Ev.tuple (EvL.cons (Ev.name 0 rfl rfl) (EvL.cons (Ev.name 1 rfl rfl) EvL.nil)) le2⟩, (fun e => by cases e), ?_⟩⟩
    · intro i z hz
      match i with
      | 0 => exact .inl (by cases hz; rfl)
      | 1 => exact .inl (by cases hz; rfl)
      | 2 => exact .inr hz
      | i + 3 => cases hz
    · intro i z hz
      match i with
      | 0 => exact .inr hz
      | 1 => exact .inl (by cases hz; rfl)
      | 2 => exact .inr hz
      | i + 3 => cases hz
  · rw [List.length_map, sg_flat, List.length_map]; exact Nat.le_trans H.hsg (by decide)
  · rw [List.length_map, sg_flat]
  have hsg := H.hsg
  refine Ex.seq ((Ex1.asgComp 3 (CompOK.one (locs := ["p"]) (frees := ["signs", "riders"]) (fds := [.lst ((signsP rows).map sg), strsP ridP]) (pcF (signsP rows)) ?S2
    (Ev.callT (G.built rfl (mg_range _) hg rfl) (EvL.cons (Ev.callB (G.built rfl (mg_len _) hl rfl) (EvL.cons (Ev.name 2 rfl rfl) EvL.nil) (CallOK.lenL (by rw [List.length_map]; omega))) EvL.nil) CallOK.range1)
    (IterOK.range hr2.hh (by omega) (by omega) (by rw [List.length_map]; omega) (by rw [List.length_map]; omega)) ?_ ?turn2) rfl rfl)) ?_
  case S2 =>
    exact { kind := rfl, names := by decide +kernel, nocell := by decide +kernel, loc := by decide +kernel, len := rfl
            fre := fun j x d h1 h2 => by
              match j with
              | 0 => cases h1; cases h2; exact ⟨rfl, rfl, 2, rfl, rfl⟩
              | 1 => cases h1; cases h2; exact ⟨rfl, rfl, 1, rfl, rfl⟩
              | j + 2 => cases h1
            all := fun x hx => by simp at hx; rcases hx with rfl | rfl <;> simp
            nd := by decide +kernel, dbg := by decide +kernel }
  case turn2 =>
    intro cl Lc x hx
    obtain ⟨j, hj, rfl⟩ : ∃ j : Nat, j < (signsP rows).length ∧ x = .int (0 + (j : Int)) := by
      obtain ⟨j, hj, e'⟩ := List.mem_map.mp hx
      exact ⟨j, by simpa using hj, e'.symm⟩
    generalize hk : (0 + (j : Int)) = k at *
    have hk0 : 0 ≤ k := by omega
    have hkn : k.toNat < (signsP rows).length := by omega
    have m4 := Int.fmod_nonneg_of_pos k (b := 4) (by omega)
    have m4' := Int.fmod_lt_of_pos k (b := 4) (by omega)
    have b1 := getD_len (l := ridP) (m := 4) (by decide) (k.fmod 4).toNat
    have b2 : ((signsP rows).getD k.toNat (0, ⟨#[]⟩)).2.length ≤ 1 := by
      have e : (signsP rows).getD k.toNat (0, ⟨#[]⟩) = (signsP rows)[k.toNat] := by simp [hkn]
      rw [e]; exact H.hone _ (List.getElem_mem hkn)
    refine ⟨_, true, Asg.name 0 rfl (.inl rfl), .nil, fun _ => ⟨_, rfl, Ev.bin (Ev.subT (Ev.subL (Ev.name 1 rfl rfl) (Ev.name 0 rfl rfl) (Op2.getL hk0 (by omega) (get_sg hkn))) Ev.int (Op2.getT (by omega) (by omega) rfl)) (Ev.subL (Ev.name 2 rfl rfl) (Ev.bin (Ev.name 0 rfl rfl) Ev.int (Op2.modI (by decide))) (Op2.getL m4 (by omega) (get_str (by show _ < 4; omega)))) (Op2.addS (Nat.le_trans (Nat.add_le_add b2 b1) (by decide)))⟩, (fun e => by cases e), fun i z hz => ?_⟩
    match i with
    | 0 => exact .inl (by cases hz; rfl)
    | 1 => exact .inr hz
    | 2 => exact .inr hz
    | i + 3 => cases hz
  · rw [List.length_map]
    exact Nat.le_trans (by simp [rangeL]; exact hsg) (by decide : 100 ≤ sizeLine)
  rw [List.length_map, pc_flat]
  exact mt_rest (C := C) B (n := n + 1) hr2 HG rfl
end Mine
end
section
open PySem PySem.W PyProof.Rows PySem.Calls
namespace Mine
set_option maxRecDepth 100000
set_option maxHeartbeats 8000000

/-- a loop by an invariant alone -/
theorem Ex1.loopE {C : Cx} {Mt : List Addr} {T : Type} {target iter : Expr} {body : List Stmt} {pos : Pos} {xs : List PV} (V : T → List VV) (Inv : List PV → T → Prop) (t0 : T)
    (src : SrcOK C (V t0) iter xs) (h0 : Inv [] t0)
    (hb : ∀ pre x post t, xs = pre ++ x :: post → Inv pre t → ∃ t', (∃ v1, Asg C Mt target x (V t) v1 ∧ Ex C Mt body v1 (.next (V t'))) ∧ Inv (pre ++ [x]) t')
    (hs : ∀ x, foldedSetIterable iter C.env x = pure x := by intro _; rfl) : ∃ t', Inv xs t' ∧ Ex1 C Mt (.For target iter body [] pos) (V t0) (.next (V t')) := by
  classical
  let P : List PV → PV → T → T → Prop := fun pre x t t' => (∃ v1, Asg C Mt target x (V t) v1 ∧ Ex C Mt body v1 (.next (V t'))) ∧ Inv (pre ++ [x]) t'
  let st : List PV × T → PV → List PV × T := fun s x => (s.1 ++ [x], if h : ∃ t', P s.1 x s.2 t' then Classical.choose h else s.2)
  have hst : ∀ pre x t, (∃ t', P pre x t t') → P pre x t (st (pre, t) x).2 := fun pre x t h => by
    show P pre x t (if h : ∃ t', P pre x t t' then Classical.choose h else t)
    rw [dif_pos h]
    exact Classical.choose_spec h
  have lp := Ex1.loopS (C := C) (Mt := Mt) (T := List PV × T) (target := target) (iter := iter) (body := body) (pos := pos) (xs := xs) (fun s => V s.2) (fun s x => .next (st s x)) (fun pre s => s.1 = pre ∧ Inv pre s.2) ([], t0) src ⟨rfl, h0⟩ (fun pre x post s hx hI => by
    obtain ⟨p, t⟩ := s
    obtain ⟨rfl, hI⟩ := hI
    have := hst p x t (hb p x post t hx hI)
    exact ⟨this.1, fun t' e => by cases e; exact ⟨rfl, this.2⟩⟩) hs
  have fold : ∀ (post pre : List PV) (t : T), xs = pre ++ post → Inv pre t → (post.foldl st (pre, t)).1 = xs ∧ Inv xs (post.foldl st (pre, t)).2 := by
    intro post
    induction post with
    | nil => intro pre t hx hI; rw [List.append_nil] at hx; subst hx; exact ⟨rfl, hI⟩
    | cons x post ih =>
      intro pre t hx hI
      have h1 := hst pre x t (hb pre x post t hx hI)
      exact ih (pre ++ [x]) (st (pre, t) x).2 (by rw [hx]; simp) h1.2
  refine ⟨(xs.foldl st ([], t0)).2, (fold xs [] t0 rfl h0).2, ?_⟩
  rw [loopR_next] at lp
  exact lp

theorem Ex.loopE {C : Cx} {Mt : List Addr} {T : Type} {target iter : Expr} {body rest : List Stmt} {pos : Pos} {xs : List PV} {out : Out} (V : T → List VV) (Inv : List PV → T → Prop) (t0 : T)
    (src : SrcOK C (V t0) iter xs) (h0 : Inv [] t0)
    (hb : ∀ pre x post t, xs = pre ++ x :: post → Inv pre t → ∃ t', (∃ v1, Asg C Mt target x (V t) v1 ∧ Ex C Mt body v1 (.next (V t'))) ∧ Inv (pre ++ [x]) t')
    (hn : ∀ t', Inv xs t' → Ex C Mt rest (V t') out)
    (hs : ∀ x, foldedSetIterable iter C.env x = pure x := by intro _; rfl) : Ex C Mt (.For target iter body [] pos :: rest) (V t0) out := by
  obtain ⟨t', h1, h2⟩ := Ex1.loopE (pos := pos) V Inv t0 src h0 hb hs
  exact Ex.seq h2 (hn t' h1)

theorem rangeL_split {a b : Int} {pre post : List PV} {x : PV} (h : rangeL a b = pre ++ x :: post) : x = .int (a + (pre.length : Int)) ∧ pre.length < (b - a).toNat := by
  have h1 : (rangeL a b)[pre.length]? = some x := by rw [h]; simp
  simp only [rangeL, List.getElem?_map] at h1
  cases hq : (List.range (b - a).toNat)[pre.length]? with
  | none => rw [hq] at h1; cases h1
  | some j =>
    rw [hq] at h1
    have hj := List.getElem?_eq_some_iff.mp hq
    obtain ⟨hlt, hv⟩ := hj
    have : j = pre.length := by rw [← hv]; simp
    subst this
    exact ⟨(Option.some.inj h1).symm, by simpa using hlt⟩
theorem rangeL_len (a b : Int) : (rangeL a b).length = (b - a).toNat := by simp [rangeL]
theorem get_int {l : List Int} {i : Nat} (h : i < l.length) : (l.map PV.int)[i]? = some (.int (l.getD i 0)) := by simp [h]

noncomputable def o108 : { o : Obj // ∀ P, (KH P).lookup 108 = some o } := ⟨_, fun P => rfl⟩
noncomputable def f108 : { fd : FuncData // o108.1.data = .func fd } := ⟨_, rfl⟩
noncomputable def b108 : { b : List Stmt // f108.1.body = .stmts b } := ⟨_, rfl⟩
noncomputable def lwN : List Str := ["drawn", "rows", "names", "chords", "turn", "x", "e", "size", "due", "dots", "k", "opened", "closed", "numbers", "many", "mates", "joined", "triangles", "i", "before", "entry", "ways", "j", "new"]
theorem N108 : Fn f108.1 ["script"] lwN where
  kinds := by decide +kernel
  nd := by decide +kernel
  dbg := by decide +kernel
  cn := by decide +kernel
  kind := rfl
  bind := fn1 fun v => rfl
noncomputable abbrev D108 (C : Cx) (L : Addr) : Cx := C.into f108.1 108 L (([("script" : Str)] : List Str) ++ lwN)

structure LS where
  rows : List Str
  names : List Int
  ch : List (Int × Int)
noncomputable abbrev intsP (l : List Int) : PV := .lst (l.map .int)
noncomputable def baseP : List Int := [240, 302, 660, 119]
noncomputable def drP (ns : List Int) : List Int := pick ns none (some 63) none
noncomputable def xP (ns : List Int) (turn : Int) : Int := (baseP.getD turn.toNat 0 + (pick (drP ns) (some turn) none (some 4)).sum).fmod 720
noncomputable def stepL (t : LS) (turn : Nat) (x : Int) : LS :=
  let e := x.fmod ((turn : Int) + 2)
  ⟨grownP t.rows e x, pick t.names none (some (e + 1)) none ++ [(turn : Int) + 3] ++ pick t.names (some (e + 1)) none none, t.ch ++ [(t.names.getD e.toNat 0, t.names.getD (e + 1).toNat 0)]⟩
structure TurnF (t : LS) (turn : Nat) (x : Int) : Prop where
  gr : GrF t.rows (x.fmod ((turn : Int) + 2)) x
  nl : t.names.length = turn + 3
  n1 : (pick t.names none (some (x.fmod ((turn : Int) + 2) + 1)) none).length ≤ 100
  n2 : (pick t.names (some (x.fmod ((turn : Int) + 2) + 1)) none none).length ≤ 100
  cl : t.ch.length = turn
  gl : (grownP t.rows (x.fmod ((turn : Int) + 2)) x).length = turn + 4
  nn : (stepL t turn x).names.length = turn + 4

structure LT where
  s : LS
  tv : VV
  xv : VV
  ev : VV
noncomputable abbrev lwV (ns : List Int) (c : LS → VV) (t : LT) : List VV := [.p (intsP ns), .p (intsP (drP ns)), .p (strsP t.s.rows), .p (intsP t.s.names), c t.s, t.tv, t.xv, t.ev, .u, .u, .u, .u, .u, .u, .u, .u, .u, .u, .u, .u, .u, .u, .u, .u, .u]
noncomputable def ls0 : LS := ⟨[⟨#[46]⟩, ⟨#[46]⟩, ⟨#[46]⟩], [0, 1, 2], []⟩
theorem dr_len {ns : List Int} (h : ns.length ≤ 63) : (drP ns).length ≤ 63 := by
  unfold drP pick
  refine Nat.le_trans (List.length_filterMap_le _ _) ?_
  refine sliceRange_length_le _ _ _ 63 (fun _ => ?_) (fun hc => ?_)
  · simp only [sliceBounds, Option.getD]
    constructor
    · simp
    · simp; omega
  · exact absurd (by decide : (1 : Int) > 0) hc

theorem lw_turns {C : Cx} {mb : Str → Option Value} {n : Nat} (B : Bs C.w C.hT mb) {L : Addr} {Mt : List Addr} (hr : Rm (D108 C L).A (n + 5)) {ns : List Int} (hns : ns.length ≤ 63) (Good : Nat → LS → Prop) (g0 : Good 0 ls0)
    (H : ∀ turn t x, turn < 4 → Good turn t → 0 ≤ x → x < 720 → TurnF t turn x ∧ Good (turn + 1) (stepL t turn x)) {d : PV}
    (rest : ∀ N t, (N = 3 ∨ N = 4) → Good N t.s → noOwn [t.tv, t.xv, t.ev] = true → Ex (D108 C L) Mt (b108.1.drop 5) (lwV ns (fun s => .p (.lst (s.ch.map pr))) t) (.ret d)) {ss : List Stmt} (hss : b108.1 = ss) :
    Ex (D108 C L) Mt ss [.p (intsP ns), .u, .u, .u, .u, .u, .u, .u, .u, .u, .u, .u, .u, .u, .u, .u, .u, .u, .u, .u, .u, .u, .u, .u, .u] (.ret d) := by
  cases hss
  have G : Gl (D108 C L) (mgP C.w.params) mb := ⟨B.g, B.b, rfl, rfl⟩
  have hl : mb "len" = some (.builtin "len") := (B.bb _ (by decide +kernel)).trans boot_len
  have hg : mb "range" = some (.type "range") := (B.bb _ (by decide +kernel)).trans boot_range
  have hsu : mb "sum" = some (.builtin "sum") := (B.bb _ (by decide +kernel)).trans boot_sum
  have hdl := dr_len hns
  have hsz : ∀ m : Nat, m ≤ 1000 → m ≤ sizeLine := fun m h => Nat.le_trans h (by decide)
  refine Ex.seq (Ex1.asg 1 ((Ev.sliceL (Ev.name 0 rfl rfl) .none (.some Ev.int) .none (by intro q; cases q) (by rw [List.length_map]; exact hsz _ (by omega))).cast (d' := intsP (drP ns)) (congrArg PV.lst (pick_map _ _ _ _ _))) rfl) ?_
  refine Ex.seq (Ex1.asg 2 ((Ev.list (EvL.cons Ev.str (EvL.cons Ev.str (EvL.cons Ev.str EvL.nil))) (by show 3 ≤ sizeLine; decide)).cast (d' := strsP ls0.rows) (by rw [dot1]; rfl)) rfl) ?_
  refine Ex.seq (Ex1.asg 3 ((Ev.list (EvL.cons Ev.int (EvL.cons Ev.int (EvL.cons Ev.int EvL.nil))) (by show 3 ≤ sizeLine; decide)).cast (d' := intsP ls0.names) rfl) rfl) ?_
  refine Ex.own 4 rfl fun a hna => ?_
  refine Ex.loopE (C := D108 C L) (Mt := a :: Mt) (T := LT) (xs := rangeL 0 (if decide ((3 : Int) < ((drP ns).length : Int)) then 4 else 3)) (lwV ns (fun s => .o a (s.ch.map pr))) (fun pre t => Good pre.length t.s ∧ noOwn [t.tv, t.xv, t.ev] = true) ⟨ls0, .u, .u, .u⟩
    (.of (Ev.callT (G.built rfl (mg_range _) hg rfl) (EvL.cons (Ev.ifexp (c := decide ((3 : Int) < ((drP ns).length : Int))) ((Ts.cmp (Ev.callB (G.built rfl (mg_len _) hl rfl) (EvL.cons (Ev.name 1 rfl rfl) EvL.nil) (CallOK.lenL (by rw [List.length_map]; omega))) Ev.int Op2.gtI).cast (by rw [List.length_map])) (fun h => Ev.int.cast (by rw [h]; rfl)) (fun h => Ev.int.cast (by rw [h]; rfl))) EvL.nil) CallOK.range1)
      (IterOK.range hr.hh (by omega) (by omega) (by split <;> omega) (by split <;> omega))) ⟨g0, rfl⟩ (fun pre x post t hx hI => ?_) (fun t' hI' => ?_)
  rotate_left
  · obtain ⟨hgood, hpl⟩ := hI'
    have hno : noOwn ((lwV ns (fun s => .o a (s.ch.map pr)) t').set 4 .u) = true := by simpa [noOwn] using hpl
    refine Ex.freeze 4 rfl rfl hno hna ?_
    rw [rangeL_len] at hgood
    refine rest _ t' ?_ hgood hpl
    split
    · exact .inr rfl
    · exact .inl rfl
  · obtain ⟨rfl, hlt⟩ := rangeL_split hx
    obtain ⟨hG, hno⟩ := hI
    have h4 : pre.length < 4 := by
      have : ((if decide ((3 : Int) < ((drP ns).length : Int)) then 4 else 3 : Int) - 0).toNat ≤ 4 := by split <;> decide
      omega
    rw [Int.zero_add]
    generalize hturn : pre.length = turn at *
    have hx0 := Int.fmod_nonneg_of_pos (baseP.getD ((turn : Int).toNat) 0 + (pick (drP ns) (some (turn : Int)) none (some 4)).sum) (b := 720) (by omega)
    have hx1 := Int.fmod_lt_of_pos (baseP.getD ((turn : Int).toNat) 0 + (pick (drP ns) (some (turn : Int)) none (some 4)).sum) (b := 720) (by omega)
    have hT := H turn t.s (xP ns turn) h4 hG hx0 hx1
    obtain ⟨TF, hG'⟩ := hT
    have hxdef : xP ns turn = (baseP.getD ((turn : Int).toNat) 0 + (pick (drP ns) (some (turn : Int)) none (some 4)).sum).fmod 720 := rfl
    rw [← hxdef] at hx0 hx1
    have he0 := TF.gr.he0
    have he1 := Int.fmod_lt_of_pos (xP ns turn) (b := (turn : Int) + 2) (by omega)
    have hnl := TF.nl
    have n1 := TF.n1
    have n2 := TF.n2
    have hcl := TF.cl
    refine ⟨⟨stepL t.s turn (xP ns turn), .p (.int turn), .p (.int (xP ns turn)), .p (.int ((xP ns turn).fmod ((turn : Int) + 2)))⟩, ⟨_, Asg.name 5 rfl, ?_⟩, ⟨by rw [List.length_append, hturn]; exact hG', rfl⟩⟩
    refine Ex.seq (Ex1.asg 6 ((Ev.bin (Ev.bin (Ev.subL (Ev.list (EvL.cons Ev.int (EvL.cons Ev.int (EvL.cons Ev.int (EvL.cons Ev.int EvL.nil)))) (by show 4 ≤ sizeLine; decide)) (Ev.name 5 rfl rfl) (Op2.getL (l := baseP.map .int) (by omega) (by omega) (get_int (by show _ < 4; omega))))
      (Ev.callB (G.built rfl (mg_sum _) hsu rfl) (EvL.cons ((Ev.sliceL (Ev.name 1 rfl rfl) (.some (Ev.name 5 rfl rfl)) .none (.some Ev.int) (by intro q; cases q) (by rw [List.length_map]; exact hsz _ (by omega))).cast (congrArg PV.lst (pick_map _ _ _ _ _))) EvL.nil) (CallOK.sum hr.hh)) Op2.addI) Ev.int (Op2.modI (by decide))).cast (d' := .int (xP ns turn)) rfl) rfl) ?_
    refine Ex.seq (Ex1.asg 7 (Ev.bin (Ev.name 6 rfl rfl) (Ev.bin (Ev.name 5 rfl rfl) Ev.int Op2.addI) (Op2.modI (by omega))) rfl) ?_
    refine Ex.seq (Ex1.asg 2 (Ev.callF (G.glob (v := .ref 93) rfl (mg_93 _) rfl) (B.kx _ _ (o93.2 _)) f93.2 (EvL.cons (Ev.name 2 rfl rfl) (EvL.cons (Ev.name 7 rfl rfl) (EvL.cons (Ev.name 6 rfl rfl) EvL.nil))) (ok_grown (C := D108 C L) B (n := n) hr TF.gr)) rfl) ?_
    refine Ex.seq (Ex1.app 4 rfl rfl rfl (Ev.tuple (EvL.cons (Ev.subL (Ev.name 3 rfl rfl) (Ev.name 7 rfl rfl) (Op2.getL he0 (by omega) (get_int (by omega)))) (EvL.cons (Ev.subL (Ev.name 3 rfl rfl) (Ev.bin (Ev.name 7 rfl rfl) Ev.int Op2.addI) (Op2.getL (by omega) (by omega) (get_int (by omega)))) EvL.nil)) le2) (by rw [List.length_map, hcl]; exact Nat.lt_of_lt_of_le h4 (by decide))) ?_
    refine Ex.seq (Ex1.asg 3 ((Ev.bin (Ev.bin (Ev.sliceL (Ev.name 3 rfl rfl) .none (.some (Ev.bin (Ev.name 7 rfl rfl) Ev.int Op2.addI)) .none (by intro q; cases q) (by rw [List.length_map]; exact hsz _ (by omega)))
      (Ev.list (EvL.cons (Ev.bin (Ev.name 5 rfl rfl) Ev.int Op2.addI) EvL.nil) (by show 1 ≤ sizeLine; decide)) (Op2.addL (by rw [pick_map, List.length_map]; exact hsz _ (by show _ + 1 ≤ 1000; omega))))
      (Ev.sliceL (Ev.name 3 rfl rfl) (.some (Ev.bin (Ev.name 7 rfl rfl) Ev.int Op2.addI)) .none .none (by intro q; cases q) (by rw [List.length_map]; exact hsz _ (by omega))) (Op2.addL (by rw [pick_map, pick_map, List.length_append, List.length_map, List.length_map]; exact hsz _ (by show _ + 1 + _ ≤ 1000; omega)))).cast (d' := intsP (stepL t.s turn (xP ns turn)).names) ?_) rfl) ?_
    · rw [pick_map, pick_map]
      simp only [stepL, intsP, List.map_append, List.map_cons, List.map_nil]
    · refine Ex.ifs (b := false) ((Ts.cmp (Ev.callB (G.built rfl (mg_len _) hl rfl) (EvL.cons (Ev.name 2 rfl rfl) EvL.nil) (CallOK.lenL (by rw [List.length_map, TF.gl]; omega))) (Ev.callB (G.built rfl (mg_len _) hl rfl) (EvL.cons (Ev.name 3 rfl rfl) EvL.nil) (CallOK.lenL (by rw [List.length_map, TF.nn]; omega))) Op2.neI).cast (by rw [List.length_map, List.length_map, TF.gl, TF.nn]; simp)) (fun q => nomatch q) (fun _ => ?_)
      refine Ex.nil.cast ?_
      simp [stepL]
end Mine
end
section
open PySem PySem.W PyProof.Rows PySem.Calls PySem.SeqAt
namespace Mine
set_option maxRecDepth 100000
set_option maxHeartbeats 8000000

theorem Ex.forget {C : Cx} {Mt : List Addr} {v v' : List VV} {ss : List Stmt} {out : Out} (x : Ex C Mt ss v' out) (hf : ∀ (i : Nat) (y : VV), v'[i]? = some y → y = .u ∨ v[i]? = some y) : Ex C Mt ss v out := .mk fun X s E Q F h =>
  x.go X s E Q (F.forget hf) h

theorem eqvAll_ints : ∀ a b : List Int, PyData.eqvAll (toPyL (a.map .int)) (toPyL (b.map .int)) = decide (a = b)
  | [], [] => rfl
  | [], _ :: _ => rfl
  | _ :: _, [] => rfl
  | x :: a, y :: b => by
    simp only [List.map_cons, toPyL, toPy, PyData.eqvAll, PyData.eqv, eqvAll_ints a b, List.cons.injEq, Bool.decide_and]
    rfl
theorem data_ints : ∀ a : List Int, PV.dataL (a.map .int) = true
  | [] => rfl
  | x :: a => by simp [PV.dataL, PV.data, data_ints a]
theorem lay_ints : ∀ a : List Int, PyData.canLayAll0 (toPyL (a.map .int)) = true
  | [] => rfl
  | x :: a => by simp [toPyL, toPy, PyData.canLayAll0, PyData.canLay0, lay_ints a]
theorem depth_ints : ∀ a : List Int, PyData.depthAll (toPyL (a.map .int)) = 0
  | [] => rfl
  | x :: a => by simp [toPyL, toPy, PyData.depthAll, PyData.depth, depth_ints a]
theorem shaped_ints (a : List Int) : shaped (toPy (intsP a)) = true := by
  simp [shaped, toPy, PyData.canLay0, lay_ints, PyData.depth, depth_ints]
theorem Op2.neInts {C : Cx} {n : Nat} (hr : Rm C.A n) (a b : List Int) : Op2 C (compareOp .NotEq) (intsP a) (intsP b) (.bool (!decide (a = b))) := by
  have := Op2.neD (C := C) (a := intsP a) (b := intsP b) hr (by simpa [PV.data] using data_ints a) (by simpa [PV.data] using data_ints b) (shaped_ints a) (shaped_ints b)
  simpa [toPy, PyData.eqv, eqvAll_ints] using this

/-- the chords' corners by their rows -/
noncomputable def dueU (s : LS) : List (Int × Int) := s.ch.map fun p => (((s.names.idxOf p.1 : Nat) : Int), ((s.names.idxOf p.2 : Nat) : Int))
structure DueF (s : LS) (due : List (Int × Int)) : Prop where
  nl : s.names.length ≤ 20
  rl : s.rows.length = s.names.length
  idx : ∀ p ∈ s.ch, p.1 ∈ s.names ∧ p.2 ∈ s.names
  s2 : 2 ≤ (dueU s).length
  s64 : (dueU s).length < 64
  kok : kasOK (ltOf (dueU s)) (dueU s).length (kas_sort (dueU s).length) = true
  kp : (permOf (dueU s)).size = (dueU s).length
  kout : (permOf (dueU s)).toList.map (fun i => (dueU s)[i]?) = due.map some
  dl : due.length ≤ 100

noncomputable def opN (due : List (Int × Int)) (k : Int) : Nat := (due.filter fun p => p.1 == k).length
noncomputable def clN (due : List (Int × Int)) (k : Int) : Nat := (due.filter fun p => p.2 == k).length
noncomputable def wantP (due : List (Int × Int)) (k : Int) : List Int :=
  List.replicate ((((opN due k : Nat) : Int) + (clN due k : Nat) + 1).fdiv 3).toNat 52 ++ List.replicate ((((opN due k : Nat) : Int) + (clN due k : Nat) + 1).fmod 3).toNat 23 ++ List.replicate (clN due k) 8 ++ List.replicate (opN due k) 7
noncomputable def dtsP (due : List (Int × Int)) (k : Int) : Int := 3 * (((wantP due k).count 52 : Nat) : Int) + (((wantP due k).count 23 : Nat) : Int)
structure NumF (P : Params) (row : Str) (m : Nat) (want : List Int) : Prop where
  hrow : row.length ≤ 100
  hm : m ≤ 100
  hc : ∀ i, i < m → (numI P row i).k < row.length
  hd : ¬ (numI P row m).k < row.length
  hv : ∀ i, i < m → tokV P (Txt.slice row (some (numI P row i).k) (some ((numI P row i).k + szP P row (numI P row i).k))) = none ∨ ∃ v t, tokV P (Txt.slice row (some (numI P row i).k) (some ((numI P row i).k + szP P row (numI P row i).k))) = some (.int v t)
  out : (numI P row m).nums = want

noncomputable def ofA (k : Int) (d : PV) : Option PV := match d with
  | .tup [.int a, .int b] => if a == k then some (.int 1) else none
  | _ => none
noncomputable def ofB (k : Int) (d : PV) : Option PV := match d with
  | .tup [.int a, .int b] => if b == k then some (.int 1) else none
  | _ => none
theorem ofA_len (k : Int) : ∀ due : List (Int × Int), ((due.map pr).filterMap (ofA k)).length = opN due k
  | [] => rfl
  | p :: due => by
    have ih := ofA_len k due
    unfold opN at *
    rw [List.map_cons, List.filterMap_cons, List.filter_cons]
    cases h : p.1 == k
    · simp only [ofA, h, Bool.false_eq_true, if_false]; exact ih
    · simp only [ofA, h, if_true, List.length_cons]; rw [ih]
theorem ofB_len (k : Int) : ∀ due : List (Int × Int), ((due.map pr).filterMap (ofB k)).length = clN due k
  | [] => rfl
  | p :: due => by
    have ih := ofB_len k due
    unfold clN at *
    rw [List.map_cons, List.filterMap_cons, List.filter_cons]
    cases h : p.2 == k
    · simp only [ofB, h, Bool.false_eq_true, if_false]; exact ih
    · simp only [ofB, h, if_true, List.length_cons]; rw [ih]
noncomputable def duF (names : List Int) (d : PV) : Option PV := match d with
  | .tup [.int a, .int b] => some (.tup [.int ((names.idxOf a : Nat) : Int), .int ((names.idxOf b : Nat) : Int)])
  | _ => none
theorem dueU_flat (s : LS) : (s.ch.map pr).filterMap (duF s.names) = (dueU s).map pr := by
  unfold dueU
  rw [List.filterMap_map]
  induction s.ch with
  | nil => rfl
  | cons p l ih => rw [List.filterMap_cons]; simp only [Function.comp, pr, duF, List.map_cons]; rw [ih]
theorem le1 : (1 : Nat) ≤ sizeLine := by decide

noncomputable abbrev lwV0 (s : LS) : List VV := [.u, .u, .p (strsP s.rows), .p (intsP s.names), .p (.lst (s.ch.map pr)), .u, .u, .u, .u, .u, .u, .u, .u, .u, .u, .u, .u, .u, .u, .u, .u, .u, .u, .u, .u]
structure DT where
  ds : List Int
  kv : VV
  ov : VV
  cv : VV
  nv : VV
  mv : VV
noncomputable abbrev lwV1 (s : LS) (due : List (Int × Int)) (a : Addr) (t : DT) : List VV := [.u, .u, .p (strsP s.rows), .p (intsP s.names), .p (.lst (s.ch.map pr)), .u, .u, .u, .p (.int s.names.length), .p (.lst (due.map pr)), .o a (t.ds.map .int), t.kv, t.ov, t.cv, t.nv, t.mv, .u, .u, .u, .u, .u, .u, .u, .u, .u]
/-- the dots by the chords alone -/
noncomputable def dotsP (n : Nat) (due : List (Int × Int)) : List Int := (List.range n).map fun (k : Nat) => dtsP due (k : Int)
noncomputable abbrev lwV2 (rows : List Str) (n : Nat) (due : List (Int × Int)) : List VV := [.u, .u, .p (strsP rows), .u, .u, .u, .u, .u, .p (.int n), .p (.lst (due.map pr)), .p (intsP (dotsP n due)), .u, .u, .u, .u, .u, .u, .u, .u, .u, .u, .u, .u, .u, .u]

end Mine
end
section
open PySem PySem.W PyProof.Rows PySem.Calls PySem.SeqAt
namespace Mine
set_option maxRecDepth 100000
set_option maxHeartbeats 8000000

theorem lw_due {C : Cx} {mb : Str → Option Value} {n : Nat} (B : Bs C.w C.hT mb) {L : Addr} {Mt : List Addr} (hr : Rm (D108 C L).A (n + 5)) {s : LS} {due : List (Int × Int)} (HD : DueF s due)
    (HR : ∀ k : Nat, k < s.rows.length → ∃ m, NumF C.w.params (s.rows.getD k ⟨#[]⟩) m (wantP due (k : Int))) {d : PV}
    (rest : Ex (D108 C L) Mt (b108.1.drop 9) (lwV2 s.rows s.names.length due) (.ret d)) {ss : List Stmt} (hss : b108.1.drop 5 = ss) :
    Ex (D108 C L) Mt ss (lwV0 s) (.ret d) := by
  cases hss
  have G : Gl (D108 C L) (mgP C.w.params) mb := ⟨B.g, B.b, rfl, rfl⟩
  have hl : mb "len" = some (.builtin "len") := (B.bb _ (by decide +kernel)).trans boot_len
  have hg : mb "range" = some (.type "range") := (B.bb _ (by decide +kernel)).trans boot_range
  have hso : mb "sorted" = some (.builtin "sorted") := (B.bb _ (by decide +kernel)).trans boot_sorted
  have nl := HD.nl
  have rl := HD.rl
  have dl := HD.dl
  refine Ex.seq (Ex1.asg 8 ((Ev.callB (G.built rfl (mg_len _) hl rfl) (EvL.cons (Ev.name 3 rfl rfl) EvL.nil) (CallOK.lenL (by rw [List.length_map]; omega))).cast (d' := .int s.names.length) (by rw [List.length_map])) rfl) ?_
  refine Ex.seq (Ex1.asg 9 (Ev.callB (G.built rfl (mg_sorted _) hso rfl) (EvL.cons ((Ev.ofComp (CompOK.one (locs := ["a", "b"]) (frees := ["names"]) (fds := [intsP s.names]) (xs := s.ch.map pr)
      (duF s.names) ?S (Ev.name 4 rfl rfl) (IterOK.list hr.hh) ?z ?turn)).cast (d' := .lst ((dueU s).map pr)) ?c) EvL.nil) (CallOK.sorted HD.s2 HD.s64 HD.kok HD.kp HD.kout)) rfl) ?_
  case S =>
    exact { kind := rfl, names := by decide +kernel, nocell := by decide +kernel, loc := by decide +kernel, len := rfl
            fre := fun j x d h1 h2 => by
              match j with
              | 0 => cases h1; cases h2; exact ⟨rfl, rfl, 3, rfl, rfl⟩
              | j + 1 => cases h1
            all := fun x hx => by simp at hx; subst hx; simp
            nd := by decide +kernel, dbg := by decide +kernel }
  case z =>
    have := HD.s64
    unfold dueU at this
    rw [List.length_map] at this ⊢
    exact Nat.le_trans (Nat.le_of_lt this) (by decide)
  case c => rw [dueU_flat]
  case turn =>
    intro cl Lc x hx
    obtain ⟨⟨p, q⟩, hp, rfl⟩ := List.mem_map.mp hx
    obtain ⟨h1, h2⟩ := HD.idx _ hp
    refine ⟨_, true, Asg.pair 0 1 hr.hh rfl rfl (.inl rfl) (.inl rfl), .nil, fun _ => ⟨_, rfl, Ev.tuple (EvL.cons (Ev.meth (Ev.name 2 rfl rfl) (EvL.cons (Ev.name 0 rfl rfl) EvL.nil) (CallOK.index h1 (by omega)) ty_list PySem.F.plainAttrs_list PySem.F.slot_list_index PySem.F.type_list_index) (EvL.cons (Ev.meth (Ev.name 2 rfl rfl) (EvL.cons (Ev.name 1 rfl rfl) EvL.nil) (CallOK.index h2 (by omega)) ty_list PySem.F.plainAttrs_list PySem.F.slot_list_index PySem.F.type_list_index) EvL.nil)) le2⟩, (fun e => by cases e), fun j y hj => ?_⟩
    match j with
    | 0 => exact .inl (by cases hj; rfl)
    | 1 => exact .inl (by cases hj; rfl)
    | 2 => exact .inr hj
    | j + 3 => cases hj
  refine Ex.own 10 rfl fun a hna => ?_
  refine Ex.loopE (C := D108 C L) (Mt := a :: Mt) (T := DT) (xs := rangeL 0 s.names.length) (lwV1 s due a) (fun pre t => t.ds = dotsP pre.length due ∧ noOwn [t.kv, t.ov, t.cv, t.nv, t.mv] = true) ⟨[], .u, .u, .u, .u, .u⟩
    (.of (Ev.callT (G.built rfl (mg_range _) hg rfl) (EvL.cons (Ev.name 8 rfl rfl) EvL.nil) CallOK.range1) (IterOK.range hr.hh (by omega) (by omega) (by omega) (by omega))) ⟨rfl, rfl⟩ (fun pre x post t hx hI => ?_) (fun t' hI' => ?_)
  rotate_left
  · obtain ⟨hds, hpl⟩ := hI'
    have hno : noOwn ((lwV1 s due a t').set 10 .u) = true := by simpa [noOwn] using hpl
    refine Ex.freeze 10 rfl rfl hno hna ?_
    refine Ex.forget rest fun i y hi => ?_
    rw [hds, rangeL_len, show ((s.names.length : Int) - 0).toNat = s.names.length by omega]
    match i with
    | 0 | 1 | 3 | 4 | 5 | 6 | 7 | 11 | 12 | 13 | 14 | 15 | 16 | 17 | 18 | 19 | 20 | 21 | 22 | 23 | 24 => exact .inl (by cases hi; rfl)
    | 2 | 8 | 9 | 10 => exact .inr hi
    | i + 25 => cases hi
  · obtain ⟨rfl, hlt⟩ := rangeL_split hx
    obtain ⟨hds, hno⟩ := hI
    rw [Int.zero_add]
    generalize hk : pre.length = k at *
    have hkn : k < s.names.length := by omega
    obtain ⟨m, HN⟩ := HR k (by omega)
    have hoc := List.length_filter_le (fun p : Int × Int => p.1 == (k : Int)) due
    have hcc := List.length_filter_le (fun p : Int × Int => p.2 == (k : Int)) due
    have ho : opN due k ≤ 100 := Nat.le_trans hoc dl
    have hc : clN due k ≤ 100 := Nat.le_trans hcc dl
    have f0 : (0 : Int) ≤ (((opN due k : Nat) : Int) + (clN due k : Nat) + 1).fdiv 3 := Int.fdiv_nonneg (by omega) (by omega)
    have f1 : (((opN due k : Nat) : Int) + (clN due k : Nat) + 1).fdiv 3 ≤ 1000 := by
      rw [Int.fdiv_eq_ediv_of_nonneg _ (by omega)]; omega
    have m0 := Int.fmod_nonneg_of_pos (((opN due k : Nat) : Int) + (clN due k : Nat) + 1) (b := 3) (by omega)
    have m1 := Int.fmod_lt_of_pos (((opN due k : Nat) : Int) + (clN due k : Nat) + 1) (b := 3) (by omega)
    have hdl : (due.map pr).length ≤ sizeLine := by rw [List.length_map]; exact Nat.le_trans dl (by decide)
    refine ⟨⟨t.ds ++ [dtsP due k], .p (.int k), .p (.int (opN due k : Nat)), .p (.int (clN due k : Nat)), .p (intsP (wantP due k)), .p (.int (((opN due k : Nat) : Int) + (clN due k : Nat) + 1))⟩, ⟨_, Asg.name 11 rfl, ?_⟩, ⟨?_, rfl⟩⟩
    rotate_left
    · show t.ds ++ [dtsP due k] = _
      rw [hds, List.length_append, hk]
      simp [dotsP, List.range_succ]
    refine Ex.seq (Ex1.asg 12 ((Ev.callB (G.built rfl (mg_len _) hl rfl) (EvL.cons (Ev.ofComp (CompOK.one (locs := ["a", "b"]) (frees := ["k"]) (fds := [.int k]) (xs := due.map pr) (ofA k) ?S1 (Ev.name 9 rfl rfl) (IterOK.list hr.hh) hdl ?turn1)) EvL.nil) (CallOK.lenL (by rw [ofA_len]; omega))).cast (d' := .int (opN due k : Nat)) (by rw [ofA_len])) rfl) ?_
    case S1 =>
      exact { kind := rfl, names := by decide +kernel, nocell := by decide +kernel, loc := by decide +kernel, len := rfl
              fre := fun j x d h1 h2 => by
                match j with
                | 0 => cases h1; cases h2; exact ⟨rfl, rfl, 11, rfl, rfl⟩
                | j + 1 => cases h1
              all := fun x hx => by simp at hx; subst hx; simp
              nd := by decide +kernel, dbg := by decide +kernel }
    case turn1 =>
      intro cl Lc x hx
      obtain ⟨⟨p, q⟩, hp, rfl⟩ := List.mem_map.mp hx
      refine ⟨_, p == (k : Int), Asg.pair 0 1 hr.hh rfl rfl (.inl rfl) (.inl rfl), .one (Ts.cmp (Ev.name 0 rfl rfl) (Ev.name 2 rfl rfl) Op2.eqI), fun hb => ⟨.int 1, by simp only [ofA, hb, if_true], Ev.int⟩, fun hb => by simp only [ofA, hb, Bool.false_eq_true, if_false], fun j y hj => ?_⟩
      match j with
      | 0 => exact .inl (by cases hj; rfl)
      | 1 => exact .inl (by cases hj; rfl)
      | 2 => exact .inr hj
      | j + 3 => cases hj
    refine Ex.seq (Ex1.asg 13 ((Ev.callB (G.built rfl (mg_len _) hl rfl) (EvL.cons (Ev.ofComp (CompOK.one (locs := ["a", "b"]) (frees := ["k"]) (fds := [.int k]) (xs := due.map pr) (ofB k) ?S2 (Ev.name 9 rfl rfl) (IterOK.list hr.hh) hdl ?turn2)) EvL.nil) (CallOK.lenL (by rw [ofB_len]; omega))).cast (d' := .int (clN due k : Nat)) (by rw [ofB_len])) rfl) ?_
    case S2 =>
      exact { kind := rfl, names := by decide +kernel, nocell := by decide +kernel, loc := by decide +kernel, len := rfl
              fre := fun j x d h1 h2 => by
                match j with
                | 0 => cases h1; cases h2; exact ⟨rfl, rfl, 11, rfl, rfl⟩
                | j + 1 => cases h1
              all := fun x hx => by simp at hx; subst hx; simp
              nd := by decide +kernel, dbg := by decide +kernel }
    case turn2 =>
      intro cl Lc x hx
      obtain ⟨⟨p, q⟩, hp, rfl⟩ := List.mem_map.mp hx
      refine ⟨_, q == (k : Int), Asg.pair 0 1 hr.hh rfl rfl (.inl rfl) (.inl rfl), .one (Ts.cmp (Ev.name 1 rfl rfl) (Ev.name 2 rfl rfl) Op2.eqI), fun hb => ⟨.int 1, by simp only [ofB, hb, if_true], Ev.int⟩, fun hb => by simp only [ofB, hb, Bool.false_eq_true, if_false], fun j y hj => ?_⟩
      match j with
      | 0 => exact .inl (by cases hj; rfl)
      | 1 => exact .inl (by cases hj; rfl)
      | 2 => exact .inr hj
      | j + 3 => cases hj
    refine Ex.seq (Ex1.asg 14 ((Ev.callF (G.glob (v := .ref 98) rfl (mg_98 _) rfl) (B.kx _ _ (o98.2 _)) f98.2 (EvL.cons ((Ev.subL (Ev.name 2 rfl rfl) (Ev.name 11 rfl rfl) (Op2.getL (by omega) (by omega) (get_str (by omega)))).cast (d' := .str (s.rows.getD k ⟨#[]⟩)) (by rw [Int.toNat_natCast])) EvL.nil) (ok_numbers (C := D108 C L) B (n := n + 3) hr (s.rows.getD k ⟨#[]⟩) HN.hrow HN.hm HN.hc HN.hd HN.hv)).cast (d' := intsP (wantP due k)) (by rw [← HN.out]; rfl)) rfl) ?_
    refine Ex.seq (Ex1.app 10 rfl rfl (d := .int (dtsP due k)) ?_ (Ev.bin (Ev.bin Ev.int (Ev.meth (Ev.name 14 rfl rfl) (EvL.cons Ev.int EvL.nil) CallOK.count ty_list PySem.F.plainAttrs_list PySem.F.slot_list_count PySem.F.type_list_count) (Op2.mulI (.of_left (by decide)))) (Ev.meth (Ev.name 14 rfl rfl) (EvL.cons Ev.int EvL.nil) CallOK.count ty_list PySem.F.plainAttrs_list PySem.F.slot_list_count PySem.F.type_list_count) Op2.addI) (by rw [List.length_map, hds]; simp only [dotsP, List.length_map, List.length_range]; exact Nat.lt_of_lt_of_le hkn (Nat.le_trans nl (by decide)))) ?_
    · have h5 : noOwn [t.mv] = true := by
        simp [noOwn] at hno ⊢
        exact hno.2.2.2.2
      simpa [noOwn] using h5
    refine Ex.seq (Ex1.asg 15 (Ev.bin (Ev.bin (Ev.name 12 rfl rfl) (Ev.name 13 rfl rfl) Op2.addI) Ev.int Op2.addI) rfl) ?_
    refine Ex.ifs (b := false) ((Ts.cmp (Ev.name 14 rfl rfl) ((Ev.bin (Ev.bin (Ev.bin
      (Ev.bin (Ev.list (EvL.cons Ev.int EvL.nil) le1) (Ev.bin (Ev.name 15 rfl rfl) Ev.int (Op2.divI (by decide) ?_)) (Op2.mulL f0 f1))
      (Ev.bin (Ev.list (EvL.cons Ev.int EvL.nil) le1) (Ev.bin (Ev.name 15 rfl rfl) Ev.int (Op2.modI (by decide))) (Op2.mulL m0 (by omega))) (Op2.addL ?_))
      (Ev.bin (Ev.list (EvL.cons Ev.int EvL.nil) le1) (Ev.name 13 rfl rfl) (Op2.mulL (by omega) (by omega))) (Op2.addL ?_))
      (Ev.bin (Ev.list (EvL.cons Ev.int EvL.nil) le1) (Ev.name 12 rfl rfl) (Op2.mulL (by omega) (by omega))) (Op2.addL ?_)).cast (d' := intsP (wantP due k)) ?_) (Op2.neInts hr _ _)).cast (by simp)) (fun q => nomatch q) (fun _ => Ex.nil.cast ?_)
    · generalize hv : ((opN due k : Nat) : Int) + (clN due k : Nat) + 1 = v at *
      obtain ⟨u, rfl⟩ := Int.eq_ofNat_of_zero_le (show 0 ≤ v by omega)
      have : ∀ m : Fin 300, Builtin.divisionGoesByPylong (m.val : Int) 3 = false := by decide +kernel
      exact this ⟨u, by omega⟩
    · simp only [List.length_replicate]; exact Nat.le_trans (show _ ≤ 10000 by omega) (by decide)
    · simp only [List.length_replicate, List.length_append]; exact Nat.le_trans (show _ ≤ 10000 by omega) (by decide)
    · simp only [List.length_replicate, List.length_append]; exact Nat.le_trans (show _ ≤ 10000 by omega) (by decide)
    · simp only [wantP, intsP, List.map_append, List.map_replicate, Int.toNat_natCast]
    · simp
end Mine
end
section
open PySem PySem.W PyProof.Rows PySem.Calls PySem.SeqAt
namespace Mine
set_option maxRecDepth 100000
set_option maxHeartbeats 8000000

noncomputable abbrev T3 := Int × Int × Int
noncomputable abbrev tr (t : T3) : PV := .tup [.int t.1, .int t.2.1, .int t.2.2]
theorem eqv_pr (p q : Int × Int) : PyData.eqv (toPy (pr p)) (toPy (pr q)) = (p == q) := by
  obtain ⟨a, b⟩ := p
  obtain ⟨c, d⟩ := q
  show (a == c && (b == d && true)) = _
  rw [Bool.and_true]; rfl
theorem eqv_tr (p q : T3) : PyData.eqv (toPy (tr p)) (toPy (tr q)) = (p == q) := by
  obtain ⟨a, b, c⟩ := p
  obtain ⟨d, e, f⟩ := q
  show (a == d && (b == e && (c == f && true))) = _
  rw [Bool.and_true]; rfl
theorem any_pr (p : Int × Int) : ∀ l : List (Int × Int), ((toPyL (l.map pr)).any fun y => PyData.eqv y (toPy (pr p))) = l.contains p
  | [] => rfl
  | q :: l => by
    rw [List.map_cons, toPyL, List.any_cons, eqv_pr, any_pr p l, List.contains_cons]
    congr 1
    exact BEq.comm
theorem any_tr (p : T3) : ∀ l : List T3, ((toPyL (l.map tr)).any fun y => PyData.eqv y (toPy (tr p))) = l.contains p
  | [] => rfl
  | q :: l => by
    rw [List.map_cons, toPyL, List.any_cons, eqv_tr, any_tr p l, List.contains_cons]
    congr 1
    exact BEq.comm
theorem data_prs : ∀ a : List (Int × Int), PV.dataL (a.map pr) = true
  | [] => rfl
  | x :: a => by simp [PV.dataL, PV.data, data_prs a]
theorem lay_prs : ∀ a : List (Int × Int), PyData.canLayAll0 (toPyL (a.map pr)) = true
  | [] => rfl
  | x :: a => by simp [toPyL, toPy, PyData.canLayAll0, PyData.canLay0, lay_prs a]
theorem depth_prs : ∀ a : List (Int × Int), PyData.depthAll (toPyL (a.map pr)) ≤ 1
  | [] => Nat.zero_le _
  | x :: a => by
    have := depth_prs a
    simp only [List.map_cons, toPyL, toPy, PyData.depthAll, PyData.depth]
    omega
theorem shaped_prs (a : List (Int × Int)) : shaped (toPy (.lst (a.map pr))) = true := by
  have := depth_prs a
  simp only [shaped, toPy, PyData.canLay0, lay_prs, PyData.depth, Bool.true_and, decide_eq_true_eq]
  omega
theorem data_trs : ∀ a : List T3, PV.dataL (a.map tr) = true
  | [] => rfl
  | x :: a => by simp [PV.dataL, PV.data, data_trs a]
theorem lay_trs : ∀ a : List T3, PyData.canLayAll0 (toPyL (a.map tr)) = true
  | [] => rfl
  | x :: a => by simp [toPyL, toPy, PyData.canLayAll0, PyData.canLay0, lay_trs a]
theorem Op2.inPrs {C : Cx} {n : Nat} (hr : Rm C.A n) (p : Int × Int) (l : List (Int × Int)) : Op2 C (compareOp .In) (pr p) (.lst (l.map pr)) (.bool (l.contains p)) := by
  have := Op2.inL (C := C) (a := pr p) (l := l.map pr) hr rfl (data_prs l) (by rfl) (lay_prs l)
  rwa [any_pr] at this
theorem Op2.samePrs {C : Cx} {n : Nat} (hr : Rm C.A n) (l : List (Int × Int)) : Op2 C (compareOp .NotEq) (.lst (l.map pr)) (.lst (l.map pr)) (.bool false) := by
  have := Op2.neD (C := C) (a := .lst (l.map pr)) (b := .lst (l.map pr)) hr (by simpa [PV.data] using data_prs l) (by simpa [PV.data] using data_prs l) (shaped_prs l) (shaped_prs l)
  rwa [PySem.SeqAt.eqv_refl _ (canLay_of_shaped (shaped_prs l))] at this

noncomputable def rangeI (a b : Int) : List Int := (List.range (b - a).toNat).map fun (i : Nat) => a + (i : Int)
theorem rangeI_eq (a b : Int) : rangeL a b = (rangeI a b).map .int := by simp [rangeL, rangeI]
/-- what is joined -/
noncomputable def joinP (n : Nat) (due : List (Int × Int)) : List (Int × Int) := due ++ (rangeI 0 ((n : Int) - 1)).map (fun k => (k, k + 1)) ++ [(0, (n : Int) - 1)]
noncomputable def triP (n : Nat) (J : List (Int × Int)) : List T3 := J.flatMap fun p => (rangeI (p.2 + 1) n).filterMap fun c => if J.contains (p.1, c) && J.contains (p.2, c) then some (p.1, p.2, c) else none
noncomputable def fT (J : List (Int × Int)) (a b : Int) (d : PV) : Option PV := match d with
  | .int c => if J.contains (a, c) && J.contains (b, c) then some (tr (a, b, c)) else none
  | _ => none
noncomputable def gT (n : Nat) (J : List (Int × Int)) (d : PV) : List PV := match d with
  | .tup [.int a, .int b] => (rangeL (b + 1) n).filterMap (fT J a b)
  | _ => []
theorem tri_flat (n : Nat) (J : List (Int × Int)) : (J.map pr).flatMap (gT n J) = (triP n J).map tr := by
  unfold triP
  rw [List.map_flatMap, List.flatMap_map]
  congr 1
  funext p
  show (rangeL (p.2 + 1) n).filterMap (fT J p.1 p.2) = _
  rw [rangeI_eq, List.filterMap_map, List.map_filterMap]
  congr 1
  funext c
  simp only [Function.comp, fT]
  split <;> rfl
noncomputable def nbF (d : PV) : Option PV := match d with
  | .int k => some (.tup [.int k, .int (k + 1)])
  | _ => none
theorem nb_flat (n : Nat) : (rangeL 0 ((n : Int) - 1)).filterMap nbF = ((rangeI 0 ((n : Int) - 1)).map (fun k => (k, k + 1))).map pr := by
  rw [rangeI_eq, List.filterMap_map, List.map_map]
  induction rangeI 0 ((n : Int) - 1) with
  | nil => rfl
  | cons p l ih => rw [List.filterMap_cons]; simp only [Function.comp, pr, nbF, List.map_cons]; rw [ih]

noncomputable abbrev lwV3 (n : Nat) (due : List (Int × Int)) : List VV := [.u, .u, .u, .u, .u, .u, .u, .u, .p (.int n), .u, .p (intsP (dotsP n due)), .u, .u, .u, .u, .u, .u, .p (.lst ((joinP n due).map pr)), .p (.lst ((triP n (joinP n due)).map tr)), .u, .u, .u, .u, .u, .u]

theorem lw_join {C : Cx} {mb : Str → Option Value} {n : Nat} (B : Bs C.w C.hT mb) {L : Addr} {Mt : List Addr} (hr : Rm (D108 C L).A (n + 6)) {rows : List Str} {sz : Nat} {due : List (Int × Int)} (HM : MtG rows due) (hsz : 1 ≤ sz ∧ sz ≤ 20) (hdl : due.length ≤ 100)
    (hjl : (joinP sz due).length ≤ 100) (hb : ∀ p ∈ joinP sz due, 0 ≤ p.2 ∧ p.2 ≤ 100) (htl : (triP sz (joinP sz due)).length ≤ 100) {d : PV}
    (rest : Ex (D108 C L) Mt (b108.1.drop 13) (lwV3 sz due) (.ret d)) {ss : List Stmt} (hss : b108.1.drop 9 = ss) :
    Ex (D108 C L) Mt ss (lwV2 rows sz due) (.ret d) := by
  cases hss
  have G : Gl (D108 C L) (mgP C.w.params) mb := ⟨B.g, B.b, rfl, rfl⟩
  have hrc : ∀ {C' : Cx}, C'.A = (D108 C L).A → Rm C'.A (n + 6) := fun e => e ▸ hr
  have hg : mb "range" = some (.type "range") := (B.bb _ (by decide +kernel)).trans boot_range
  have S100 : ∀ m : Nat, m ≤ 1000 → m ≤ sizeLine := fun m h => Nat.le_trans h (by decide)
  refine Ex.seq (Ex1.asg 16 (Ev.callF (G.glob (v := .ref 103) rfl (mg_103 _) rfl) (B.kx _ _ (o103.2 _)) f103.2 (EvL.cons (Ev.name 2 rfl rfl) EvL.nil) (ok_mates (C := D108 C L) B (n := n) hr HM)) rfl) ?_
  refine Ex.ifs (b := false) (Ts.cmp (Ev.name 16 rfl rfl) (Ev.name 9 rfl rfl) (Op2.samePrs hr due)) (fun q => nomatch q) (fun _ => ?_)
  refine Ex.seq (Ex1.asg 17 ((Ev.bin (Ev.bin (Ev.name 16 rfl rfl)
    ((Ev.ofComp (CompOK.one (locs := ["k"]) (frees := []) (fds := []) (xs := rangeL 0 ((sz : Int) - 1)) nbF ?S
      (Ev.callT (G.built rfl (mg_range _) hg rfl) (EvL.cons (Ev.bin (Ev.name 8 rfl rfl) Ev.int Op2.subI) EvL.nil) CallOK.range1) (IterOK.range hr.hh (by omega) (by omega) (by omega) (by omega)) (S100 _ (by rw [rangeL_len]; omega)) ?turn)).cast (d' := .lst (((rangeI 0 ((sz : Int) - 1)).map (fun k => (k, k + 1))).map pr)) (by rw [nb_flat]))
    (Op2.addL (S100 _ (by simp only [List.length_map, rangeI, List.length_range]; omega))))
    (Ev.list (EvL.cons (Ev.tuple (EvL.cons Ev.int (EvL.cons (Ev.bin (Ev.name 8 rfl rfl) Ev.int Op2.subI) EvL.nil)) le2) EvL.nil) (by show 1 ≤ sizeLine; decide))
    (Op2.addL (S100 _ (by simp only [List.length_append, List.length_map, rangeI, List.length_range, List.length_cons, List.length_nil]; omega)))).cast (d' := .lst ((joinP sz due).map pr)) ?_) rfl) ?_
  case S =>
    exact { kind := rfl, names := by decide +kernel, nocell := by decide +kernel, loc := by decide +kernel, len := rfl
            fre := fun j x d h1 h2 => by cases h1
            all := fun x hx => by simp at hx
            nd := by decide +kernel, dbg := by decide +kernel }
  case turn =>
    intro cl Lc x hx
    obtain ⟨q, _, _, rfl⟩ := rangeL_mem hx
    refine ⟨_, true, Asg.name 0 rfl (.inl rfl), .nil, fun _ => ⟨_, rfl, Ev.tuple (EvL.cons (Ev.name 0 rfl rfl) (EvL.cons (Ev.bin (Ev.name 0 rfl rfl) Ev.int Op2.addI) EvL.nil)) le2⟩, (fun e => by cases e), fun j y hj => ?_⟩
    match j with
    | 0 => exact .inl (by cases hj; rfl)
    | j + 1 => cases hj
  · simp only [joinP, List.map_append, List.map_cons, List.map_nil]
  generalize hJ : joinP sz due = J at *
  refine Ex.seq (Ex1.asg 18 (Ev.ofComp (CompOK.two (locs := ["a", "b", "c"]) (frees := ["size", "joined"]) (fds := [.int sz, .lst (J.map pr)]) (xs := J.map pr) (gT sz J) ?S2 (Ev.name 17 rfl rfl) (IterOK.list hr.hh) ?z ?turn2)) rfl) ?_
  case S2 =>
    exact { kind := rfl, names := by decide +kernel, nocell := by decide +kernel, loc := by decide +kernel, len := rfl
            fre := fun j x d h1 h2 => by
              match j with
              | 0 => cases h1; cases h2; exact ⟨rfl, rfl, 8, rfl, rfl⟩
              | 1 => cases h1; cases h2; exact ⟨rfl, rfl, 17, rfl, rfl⟩
              | j + 2 => cases h1
            all := fun x hx => by simp at hx; rcases hx with rfl | rfl <;> simp
            nd := by decide +kernel, dbg := by decide +kernel }
  case z => rw [tri_flat, List.length_map]; exact S100 _ (by omega)
  case turn2 =>
    intro cl Lc x hx
    obtain ⟨⟨a, b⟩, hp, rfl⟩ := List.mem_map.mp hx
    have hbb := hb _ hp
    have G' : ∀ sc : Scope, Gl ((D108 C L).comp sc cl Lc (([("a" : Str), ("b" : Str), ("c" : Str)] : List Str) ++ ([("size" : Str), ("joined" : Str)] : List Str))) (mgP C.w.params) mb := fun sc => ⟨B.g, B.b, rfl, rfl⟩
    refine ⟨_, .rng (b + 1) sz, rangeL (b + 1) sz, fT J a b, Asg.pair 0 1 hr.hh rfl rfl (.inl rfl) (.inl rfl), ?_, Ev.callT ((G' _).built rfl (mg_range _) hg rfl) (EvL.cons (Ev.bin (Ev.name 1 rfl rfl) Ev.int Op2.addI) (EvL.cons (Ev.name 3 rfl rfl) EvL.nil)) CallOK.range2, IterOK.range hr.hh (by omega) (by omega) (by omega) (by omega), rfl, fun y hy => ?_⟩
    · intro i z hz
      match i with
      | 0 => exact .inl (by cases hz; rfl)
      | 1 => exact .inl (by cases hz; rfl)
      | 2 => exact .inl (by cases hz; rfl)
      | 3 => exact .inr hz
      | 4 => exact .inr hz
      | i + 5 => cases hz
    · obtain ⟨c, _, _, rfl⟩ := rangeL_mem hy
      refine ⟨_, J.contains (a, c) && J.contains (b, c), Asg.name 2 rfl (.inl rfl), .one (Ts.and (Ts.cmp (Ev.tuple (EvL.cons (Ev.name 0 rfl rfl) (EvL.cons (Ev.name 2 rfl rfl) EvL.nil)) le2) (Ev.name 4 rfl rfl) (Op2.inPrs (n := n + 6) (hrc (by rfl)) (a, c) J)) (fun _ => Ts.cmp (Ev.tuple (EvL.cons (Ev.name 1 rfl rfl) (EvL.cons (Ev.name 2 rfl rfl) EvL.nil)) le2) (Ev.name 4 rfl rfl) (Op2.inPrs (n := n + 6) (hrc (by rfl)) (b, c) J))),
        fun hb => ⟨tr (a, b, c), by simp only [fT, hb, if_true], Ev.tuple (EvL.cons (Ev.name 0 rfl rfl) (EvL.cons (Ev.name 1 rfl rfl) (EvL.cons (Ev.name 2 rfl rfl) EvL.nil))) (by show 3 ≤ sizeLine; decide)⟩, fun hb => by simp only [fT, hb, Bool.false_eq_true, if_false], fun i z hz => ?_⟩
      match i with
      | 0 => exact .inr hz
      | 1 => exact .inr hz
      | 2 => exact .inl (by cases hz; rfl)
      | 3 => exact .inr hz
      | 4 => exact .inr hz
      | i + 5 => cases hz
  rw [tri_flat]
  subst hJ
  refine Ex.forget rest fun i y hi => ?_
  match i with
  | 0 | 1 | 2 | 3 | 4 | 5 | 6 | 7 | 9 | 11 | 12 | 13 | 14 | 15 | 16 | 19 | 20 | 21 | 22 | 23 | 24 => exact .inl (by cases hi; rfl)
  | 8 | 10 | 17 | 18 => exact .inr hi
  | i + 25 => cases hi
end Mine
end
section
open PySem PySem.W PyProof.Rows PySem.Calls PySem.SeqAt
namespace Mine
set_option maxRecDepth 100000
set_option maxHeartbeats 8000000

theorem FS.weak {C : Cx} {Mt : List Addr} {v v' : List VV} {st : List Stmt} (x : Ex C Mt st v (.next v')) {w : List VV} (hf : ∀ (i : Nat) (y : VV), w[i]? = some y → y = .u ∨ v'[i]? = some y) : Ex C Mt st v (.next w) := .mk fun X s E Q F h =>
  x.go X s E Q F fun f s' k o => h f s' k ⟨o.1, o.2.forget hf⟩

noncomputable abbrev wy (w : List T3) : PV := .tup (w.map tr)
noncomputable def hasJ (j : Int) (t : T3) : Bool := t.1 == j || (t.2.1 == j || t.2.2 == j)
noncomputable def wayF (j : Int) (w : List T3) (t : T3) : Option (List T3) := if hasJ j t && !w.contains t then some (w ++ [t]) else none
noncomputable def waysN (T : List T3) (j : Int) (W : List (List T3)) : List (List T3) := W.flatMap fun w => T.filterMap (wayF j w)
structure Fr where
  before : Int
  entry : Int
  ways : List (List T3)
noncomputable def frStep (T : List T3) (D : List Int) (j : Nat) (f : Fr) : Fr := ⟨f.entry, D.getD j 0 * f.entry - f.before, waysN T j f.ways⟩
noncomputable def frAt (T : List T3) (D : List Int) (i : Nat) : Nat → Fr
  | 0 => ⟨0, 1, [[]]⟩
  | m + 1 => frStep T D (i + 1 + m) (frAt T D i m)
/-- facts of one place in the frieze, to be checked -/
noncomputable def frOK (n : Nat) (J : List (Int × Int)) (D : List Int) (T : List T3) (i m : Nat) : Bool :=
  let f := frAt T D i m
  let j := i + 1 + m
  decide (f.entry = (f.ways.length : Int)) && (decide (f.entry < 2) == J.contains ((i : Int), (j : Int))) && decide (f.ways.length ≤ 100) && f.ways.all (fun w => decide (w.length ≤ 50)) && decide ((waysN T j f.ways).length ≤ 100) && decide (0 ≤ D.getD j 0) && decide (D.getD j 0 ≤ 100)

noncomputable def fW (j : Int) (w : List T3) (d : PV) : Option PV := match d with
  | .tup [.int a, .int b, .int c] => if hasJ j (a, b, c) && !w.contains (a, b, c) then some (wy (w ++ [(a, b, c)])) else none
  | _ => none
noncomputable def unT (d : PV) : Option T3 := match d with
  | .tup [.int a, .int b, .int c] => some (a, b, c)
  | _ => none
noncomputable def gW (T : List T3) (j : Int) (d : PV) : List PV := match d with
  | .tup l => (T.map tr).filterMap (fW j (l.filterMap unT))
  | _ => []
theorem un_tr (w : List T3) : (w.map tr).filterMap unT = w := by
  rw [List.filterMap_map]
  induction w with
  | nil => rfl
  | cons t w ih => rw [List.filterMap_cons]; simp only [Function.comp, unT]; rw [ih]
theorem gW_wy (T : List T3) (j : Int) (w : List T3) : gW T j (wy w) = (T.filterMap (wayF j w)).map wy := by
  show (T.map tr).filterMap (fW j ((w.map tr).filterMap unT)) = _
  rw [un_tr, List.filterMap_map, List.map_filterMap]
  congr 1
  funext t
  simp only [Function.comp, fW, wayF]
  split <;> rfl
theorem ways_flat (T : List T3) (j : Int) (W : List (List T3)) : (W.map wy).flatMap (gW T j) = (waysN T j W).map wy := by
  unfold waysN
  rw [List.map_flatMap, List.flatMap_map]
  congr 1
  funext w
  exact gW_wy T j w

theorem Op2.inTr {C : Cx} {n : Nat} (hr : Rm C.A n) (j : Int) (t : T3) : Op2 C (compareOp .In) (.int j) (tr t) (.bool (hasJ j t)) := by
  have := Op2.inT (C := C) (a := .int j) (l := [.int t.1, .int t.2.1, .int t.2.2]) hr rfl rfl (by rfl) rfl
  refine cast ?_ this
  congr 2
  show (t.1 == j || (t.2.1 == j || (t.2.2 == j || false))) = _
  rw [Bool.or_false]; rfl
theorem Op2.ninWy {C : Cx} {n : Nat} (hr : Rm C.A n) (t : T3) (w : List T3) : Op2 C (compareOp .NotIn) (tr t) (wy w) (.bool (!w.contains t)) := by
  have := Op2.ninT (C := C) (a := tr t) (l := w.map tr) hr rfl (data_trs w) (by rfl) (lay_trs w)
  rwa [any_tr] at this

noncomputable abbrev lwV4 (n : Nat) (D : List Int) (J : List (Int × Int)) (T : List T3) (i : Nat) (f : Fr) : List VV := [.u, .u, .u, .u, .u, .u, .u, .u, .p (.int n), .u, .p (intsP D), .u, .u, .u, .u, .u, .u, .p (.lst (J.map pr)), .p (.lst (T.map tr)), .p (.int i), .p (.int f.before), .p (.int f.entry), .p (.lst (f.ways.map wy)), .u, .u]
noncomputable abbrev lwV5 (n : Nat) (D : List Int) (J : List (Int × Int)) (T : List T3) : List VV := [.u, .u, .u, .u, .u, .u, .u, .u, .p (.int n), .u, .p (intsP D), .u, .u, .u, .u, .u, .u, .p (.lst (J.map pr)), .p (.lst (T.map tr)), .u, .u, .u, .u, .u, .u]

theorem lw_frieze {C : Cx} {mb : Str → Option Value} {n : Nat} (B : Bs C.w C.hT mb) {L : Addr} {Mt : List Addr} (hr : Rm (D108 C L).A (n + 2)) {sz : Nat} {D : List Int} {J : List (Int × Int)} {T : List T3} (hsz : sz ≤ 20) (hD : D.length = sz) (hT : T.length ≤ 100)
    (H : ∀ i m : Nat, i + 1 + m < sz → frOK sz J D T i m = true) {ss : List Stmt} (hss : b108.1.drop 13 = ss) :
    Ex (D108 C L) Mt ss (lwV5 sz D J T) (.ret (.bool true)) := by
  cases hss
  have G : Gl (D108 C L) (mgP C.w.params) mb := ⟨B.g, B.b, rfl, rfl⟩
  have hg : mb "range" = some (.type "range") := (B.bb _ (by decide +kernel)).trans boot_range
  have hl : mb "len" = some (.builtin "len") := (B.bb _ (by decide +kernel)).trans boot_len
  have S100 : ∀ m : Nat, m ≤ 1000 → m ≤ sizeLine := fun m h => Nat.le_trans h (by decide)
  refine Ex.loopE (C := D108 C L) (Mt := Mt) (T := Unit) (xs := rangeL 0 sz) (fun _ => lwV5 sz D J T) (fun _ _ => True) ()
    (.of (Ev.callT (G.built rfl (mg_range _) hg rfl) (EvL.cons (Ev.name 8 rfl rfl) EvL.nil) CallOK.range1) (IterOK.range hr.hh (by omega) (by omega) (by omega) (by omega))) trivial (fun pre x post t hx hI => ?_) (fun t' hI' => Ex.one (Ex1.ret Ev.bool))
  obtain ⟨rfl, hlt⟩ := rangeL_split hx
  rw [Int.zero_add]
  generalize hk : pre.length = i at *
  refine ⟨(), ⟨_, Asg.name 19 rfl, ?_⟩, trivial⟩
  refine Ex.seq (Ex1.asg 20 Ev.int rfl) (Ex.seq (Ex1.asg 21 Ev.int rfl) (Ex.seq (Ex1.asg 22 (Ev.list (EvL.cons (Ev.tuple EvL.nil (Nat.zero_le _)) EvL.nil) (by show 1 ≤ sizeLine; decide)) rfl) ?_))
  refine Ex.loopE (C := D108 C L) (Mt := Mt) (T := Fr) (xs := rangeL ((i : Int) + 1) sz) (fun f => lwV4 sz D J T i f) (fun pre f => f = frAt T D i pre.length) ⟨0, 1, [[]]⟩
    (.of (Ev.callT (G.built rfl (mg_range _) hg rfl) (EvL.cons (Ev.bin (Ev.name 19 rfl rfl) Ev.int Op2.addI) (EvL.cons (Ev.name 8 rfl rfl) EvL.nil)) CallOK.range2) (IterOK.range hr.hh (by omega) (by omega) (by omega) (by omega))) rfl (fun pre2 x2 post2 f hx2 hf => ?_) (fun f' hf' => FS.weak Ex.nil fun q y hq => ?_)
  rotate_left
  · match q with
    | 0 | 1 | 2 | 3 | 4 | 5 | 6 | 7 | 9 | 11 | 12 | 13 | 14 | 15 | 16 | 19 | 20 | 21 | 22 | 23 | 24 => exact .inl (by cases hq; rfl)
    | 8 | 10 | 17 | 18 => exact .inr hq
    | q + 25 => cases hq
  obtain ⟨rfl, hlt2⟩ := rangeL_split hx2
  generalize hm : pre2.length = m at *
  have hj : i + 1 + m < sz := by omega
  have HO := H i m hj
  rw [show ((i : Int) + 1 + (m : Int)) = ((i + 1 + m : Nat) : Int) by omega]
  unfold frOK at HO
  dsimp only at HO
  rw [← hf] at HO
  generalize hjj : i + 1 + m = j at *
  simp only [Bool.and_eq_true, decide_eq_true_eq, beq_iff_eq, List.all_eq_true] at HO
  obtain ⟨⟨⟨⟨⟨⟨o1, o2⟩, o3⟩, o4⟩, o5⟩, o6⟩, o7⟩ := HO
  obtain ⟨before, entry, ways⟩ := f
  dsimp only at o1 o2 o3 o4 o5
  refine ⟨frStep T D j ⟨before, entry, ways⟩, ⟨_, Asg.name 23 rfl, FS.weak (v' := [.u, .u, .u, .u, .u, .u, .u, .u, .p (.int sz), .u, .p (intsP D), .u, .u, .u, .u, .u, .u, .p (.lst (J.map pr)), .p (.lst (T.map tr)), .p (.int i), .p (.int entry), .p (.int (D.getD j 0 * entry - before)), .p (.lst ((waysN T j ways).map wy)), .p (.int j), .p (.int (D.getD j 0 * entry - before))]) ?_ fun q y hq => ?_⟩, ?_⟩
  rotate_left
  · match q with
    | 0 | 1 | 2 | 3 | 4 | 5 | 6 | 7 | 9 | 11 | 12 | 13 | 14 | 15 | 16 | 23 | 24 => exact .inl (by cases hq; rfl)
    | 8 | 10 | 17 | 18 | 19 | 20 | 21 | 22 => exact .inr hq
    | q + 25 => cases hq
  · show frStep T D j ⟨before, entry, ways⟩ = frAt T D i (pre2 ++ [_]).length
    rw [List.length_append, hm, hf]
    show frStep T D j _ = frStep T D (i + 1 + m) _
    rw [hjj]
  have hr2 : ∀ {C' : Cx}, C'.A = (D108 C L).A → Rm C'.A (n + 2) := fun e => e ▸ hr
  refine Ex.ifs (b := false) ((Ts.or (Ts.cmp (Ev.callF (G.glob (v := .ref 86) rfl (mg_86 _) rfl) (B.kx _ _ (o86.2 _)) f86.2 (EvL.cons (Ev.bin (Ev.name 21 rfl rfl) (Ev.callB (G.built rfl (mg_len _) hl rfl) (EvL.cons (Ev.name 22 rfl rfl) EvL.nil) (CallOK.lenL (by rw [List.length_map]; exact Nat.lt_of_le_of_lt o3 (by decide)))) Op2.subI) EvL.nil) (ok_iseof (C := D108 C L) B (n := n + 1) hr _)) Ev.bool Op2.isNotB)
    (fun _ => Ts.cmp (Ev.callF (G.glob (v := .ref 79) rfl (mg_79 _) rfl) (B.kx _ _ (o79.2 _)) f79.2 (EvL.cons (Ev.bin Ev.int (Ev.name 21 rfl rfl) Op2.addI) EvL.nil) (ok_isterminal (C := D108 C L) B (n := n + 1) hr _)) (Ev.cmp (Ev.tuple (EvL.cons (Ev.name 19 rfl rfl) (EvL.cons (Ev.name 23 rfl rfl) EvL.nil)) le2) (Ev.name 17 rfl rfl) (Op2.inPrs hr ((i : Int), (j : Int)) J)) Op2.isNotB)).cast ?_) (fun q => nomatch q) (fun _ => ?_)
  · rw [List.length_map, ← o2, ← o1]
    have e1 : (entry - entry == 0) = true := by simp
    have e2 : decide ((254 : Int) + entry < 256) = decide (entry < 2) := decide_eq_decide.mpr (by omega)
    rw [e1, e2]
    cases decide (entry < 2) <;> rfl
  refine Ex.seq (Ex1.asg 24 (Ev.bin (Ev.bin (Ev.subL (Ev.name 10 rfl rfl) (Ev.name 23 rfl rfl) (Op2.getL (by omega) (by omega) (get_int (by omega)))) (Ev.name 21 rfl rfl) (Op2.mulI (.of_left (intBits_le_64 (by simp only [Int.toNat_natCast]; omega) (by simp only [Int.toNat_natCast]; omega))))) (Ev.name 20 rfl rfl) Op2.subI) rfl) ?_
  refine Ex.seq (Ex1.asg 20 (Ev.name 21 rfl rfl) rfl) (Ex.seq (Ex1.asg 21 (Ev.name 24 rfl rfl) rfl) ?_)
  refine Ex.one ((Ex1.asgComp 22 (CompOK.two (locs := ["way", "t"]) (frees := ["j", "triangles"]) (fds := [.int j, .lst (T.map tr)]) (xs := ways.map wy) (gW T j) ?S (Ev.name 22 rfl rfl) (IterOK.list hr.hh) ?z ?turn) rfl rfl).cast ?_)
  case S =>
    exact { kind := rfl, names := by decide +kernel, nocell := by decide +kernel, loc := by decide +kernel, len := rfl
            fre := fun j x d h1 h2 => by
              match j with
              | 0 => cases h1; cases h2; exact ⟨rfl, rfl, 23, rfl, rfl⟩
              | 1 => cases h1; cases h2; exact ⟨rfl, rfl, 18, rfl, rfl⟩
              | j + 2 => cases h1
            all := fun x hx => by simp at hx; rcases hx with rfl | rfl <;> simp
            nd := by decide +kernel, dbg := by decide +kernel }
  case z => rw [ways_flat, List.length_map]; exact S100 _ (by omega)
  case turn =>
    intro cl Lc x hx
    obtain ⟨w, hw, rfl⟩ := List.mem_map.mp hx
    have hwl := o4 w hw
    refine ⟨_, .lst (T.map tr), T.map tr, fW j w, Asg.name 0 rfl (.inl rfl), ?_, Ev.name 3 rfl rfl, IterOK.list hr.hh, ?_, fun y hy => ?_⟩
    · intro i z hz
      match i with
      | 0 => exact .inl (by cases hz; rfl)
      | 1 => exact .inl (by cases hz; rfl)
      | 2 => exact .inr hz
      | 3 => exact .inr hz
      | i + 4 => cases hz
    · show (T.map tr).filterMap (fW j ((w.map tr).filterMap unT)) = _
      rw [un_tr]
    · obtain ⟨t, ht, rfl⟩ := List.mem_map.mp hy
      refine ⟨_, hasJ j t && !w.contains t, Asg.name 1 rfl (.inl rfl), .one (Ts.and (Ts.cmp (Ev.name 2 rfl rfl) (Ev.name 1 rfl rfl) (Op2.inTr (n := n + 2) (hr2 (by rfl)) j t)) (fun _ => Ts.cmp (Ev.name 1 rfl rfl) (Ev.name 0 rfl rfl) (Op2.ninWy (n := n + 2) (hr2 (by rfl)) t w))),
        fun hb => ⟨wy (w ++ [t]), by simp only [fW, hb, if_true], (Ev.bin (Ev.name 0 rfl rfl) (Ev.tuple (EvL.cons (Ev.name 1 rfl rfl) EvL.nil) (by show 1 ≤ sizeLine; decide)) (Op2.addT (S100 _ (by rw [List.length_map]; show w.length + 1 ≤ 1000; omega)))).cast (by simp [wy])⟩, fun hb => by simp only [fW, hb, Bool.false_eq_true, if_false], fun i z hz => ?_⟩
      match i with
      | 0 => exact .inr hz
      | 1 => exact .inl (by cases hz; rfl)
      | 2 => exact .inr hz
      | 3 => exact .inr hz
      | i + 4 => cases hz
  · rw [ways_flat]
    simp
end Mine
end
section
open PySem PySem.W PyProof.Rows PySem.Calls PySem.SeqAt
namespace Mine
set_option maxRecDepth 100000
set_option maxHeartbeats 8000000

/-- what is to be known of the last rows -/
structure EndF (P : Params) (s : LS) (due : List (Int × Int)) : Prop where
  du : DueF s due
  nu : ∀ k : Nat, k < s.rows.length → ∃ m, NumF P (s.rows.getD k ⟨#[]⟩) m (wantP due (k : Int))
  mt : MtG s.rows due
  sz : 1 ≤ s.names.length
  jl : (joinP s.names.length due).length ≤ 100
  jb : ∀ p ∈ joinP s.names.length due, 0 ≤ p.2 ∧ p.2 ≤ 100
  tl : (triP s.names.length (joinP s.names.length due)).length ≤ 100
  fr : ∀ i m : Nat, i + 1 + m < s.names.length → frOK s.names.length (joinP s.names.length due) (dotsP s.names.length due) (triP s.names.length (joinP s.names.length due)) i m = true

theorem ok_law {C : Cx} {mb : Str → Option Value} (B : Bs C.w C.hT mb) (hr : Rm C.A 20) (Good : Nat → LS → Prop) (g0 : Good 0 ls0)
    (H : ∀ turn t x, turn < 4 → Good turn t → 0 ≤ x → x < 720 → TurnF t turn x ∧ Good (turn + 1) (stepL t turn x))
    (HE : ∀ N t, (N = 3 ∨ N = 4) → Good N t → ∃ due, EndF C.w.params t due) (ns : List Int) (hns : ns.length ≤ 63) : CallOK C (.ref 108) [.lst (ns.map .int)] (.bool true) := by
  refine CallOK.fn (ps := ["script"]) (rest := lwN) 24 N108 (n := 19) hr (B.kx _ _ (o108.2 _)) f108.2 B.lim (code_of B rfl rfl rfl rfl) b108.2 rfl rfl (fun L => ?_)
  have hr2 : Rm (D108 C L).A 19 := hr.deeper
  refine lw_turns (C := C) B (n := 14) hr2 hns Good g0 H (fun N t hN hG hno => ?_) rfl
  obtain ⟨due, E⟩ := HE N t.s hN hG
  refine Ex.forget (v' := lwV0 t.s) (lw_due (C := C) B (n := 14) hr2 E.du E.nu (lw_join (C := C) B (n := 13) hr2 E.mt ⟨E.sz, E.du.nl⟩ E.du.dl E.jl E.jb E.tl (lw_frieze (C := C) B (n := 17) hr2 E.du.nl (by simp [dotsP]) E.tl E.fr rfl) rfl) rfl) fun i y hi => ?_
  match i with
  | 0 | 1 | 5 | 6 | 7 | 8 | 9 | 10 | 11 | 12 | 13 | 14 | 15 | 16 | 17 | 18 | 19 | 20 | 21 | 22 | 23 | 24 => exact .inl (by cases hi; rfl)
  | 2 | 3 | 4 => exact .inr hi
  | i + 25 => cases hi
end Mine
end
section
open PySem PySem.W PyProof.Rows PySem.Calls
namespace Mine

/-- what is left of a text, by its signs -/
noncomputable def sq : Bool → Bool → List Nat → List Nat
  | _, _, [] => []
  | q, true, c :: r => if q then sq q false r else c :: sq q false r
  | q, false, c :: r => if c == 92 then (if q then sq q true r else c :: sq q true r) else if c == 34 then sq (!q) false r else if q then sq q false r else c :: sq q false r
/-- quotations and escapes close -/
noncomputable def sqOK : Bool → Bool → List Nat → Bool
  | q, e, [] => !q && !e
  | q, true, _ :: r => sqOK q false r
  | q, false, c :: r => if c == 92 then sqOK q true r else if c == 34 then sqOK (!q) false r else sqOK q false r
theorem escOK_of_sqOK : ∀ (l : List Nat) (q e : Bool), sqOK q e l = true → escOK e l = true
  | [], q, e, h => by
    simp only [sqOK, Bool.and_eq_true] at h
    simpa [escOK] using h.2
  | c :: r, q, true, h => escOK_of_sqOK r q false h
  | c :: r, q, false, h => by
    simp only [sqOK] at h
    simp only [escOK]
    by_cases h1 : (c == 92) = true
    · rw [if_pos h1] at h; rw [h1]; exact escOK_of_sqOK r _ _ h
    · rw [if_neg h1] at h
      rw [Bool.not_eq_true] at h1
      rw [h1]
      split at h
      · exact escOK_of_sqOK r _ _ h
      · exact escOK_of_sqOK r _ _ h

noncomputable def cut (l : List Nat) (i j : Nat) : List Nat := (l.drop i).take (j - i)
theorem cut_append {l : List Nat} {i j k : Nat} (h1 : i ≤ j) (h2 : j ≤ k) : cut l i j ++ cut l j k = cut l i k := by
  unfold cut
  have e : (l.drop i).take (k - i) = (l.drop i).take (j - i) ++ ((l.drop i).drop (j - i)).take (k - j) := by
    rw [show k - i = (j - i) + (k - j) by omega, List.take_add]
  rw [e, List.drop_drop, show i + (j - i) = j by omega]
theorem cut_one {l r : List Nat} {k : Nat} {c : Nat} (h : l.drop k = c :: r) : cut l k (k + 1) = [c] := by
  unfold cut
  rw [h, show k + 1 - k = 1 by omega]; rfl
theorem cut_nil {l : List Nat} {k : Nat} : cut l k k = [] := by unfold cut; simp
theorem slice_cut {x : Str} {i j : Nat} (h1 : i ≤ j) (h2 : j ≤ x.cps.toList.length) : (Txt.slice x (some (i : Int)) (some (j : Int))).cps.toList = cut x.cps.toList i j := by
  have := beq_iff_eq.mp (slice_closes (x := x) (i := i) (j := j) ⟨by omega, by omega, by omega⟩)
  rw [this]
  simp only [cut]
  rw [show ((i : Nat) : Int).toNat = i by omega, show (((j : Nat) : Int) - (i : Nat)).toNat = j - i by omega]
theorem slice_rest {x : Str} {i : Nat} (h : i ≤ x.cps.toList.length) : (Txt.slice x (some (i : Int)) none).cps.toList = x.cps.toList.drop i := by
  have hl : x.length = x.cps.toList.length := by simp [Str.length]
  have := slice_from_eq (x := x) (i := i) (b := (x.length : Int)) (by omega) (by omega) rfl
  rw [this]
  simp only
  rw [show ((i : Nat) : Int).toNat = i by omega, show ((x.length : Int) - (i : Nat)).toNat = x.length - i by omega]
  rw [List.take_of_length_le (by rw [List.length_drop, hl]; exact Nat.le_refl _)]

noncomputable def flt (l : List Str) : List Nat := (l.map fun y => y.cps.toList).flatten
theorem flt_snoc (l : List Str) (y : Str) : flt (l ++ [y]) = flt l ++ y.cps.toList := by simp [flt]

/-- where the walk stands -/
structure At (x : Str) (k : Nat) (t : StT) (out : List Nat) (q : Bool) : Prop where
  st : ∃ s : Nat, t.start = (s : Int) ∧ ((q = false ∧ t.op = none ∧ s ≤ k ∧ out = flt t.res ++ cut x.cps.toList s k) ∨ (q = true ∧ ∃ o : Nat, t.op = some (o : Int) ∧ s ≤ o ∧ o ≤ k ∧ out = flt t.res ++ cut x.cps.toList s o))

theorem At.other {x : Str} {k : Nat} {t : StT} {out r : List Nat} {q : Bool} {c : Nat} (h : At x k t out q) (hx : x.cps.toList.drop k = c :: r) : At x (k + 1) t (if q then out else out ++ [c]) q := by
  obtain ⟨s, h1, h2⟩ := h.st
  rcases h2 with ⟨rfl, h3, h4, rfl⟩ | ⟨rfl, o, h3, h4, h5, rfl⟩
  · refine ⟨s, h1, .inl ⟨rfl, h3, by omega, ?_⟩⟩
    simp only [Bool.false_eq_true, if_false]
    rw [List.append_assoc, ← cut_one hx, cut_append h4 (by omega)]
  · exact ⟨s, h1, .inr ⟨rfl, o, h3, h4, by omega, by simp⟩⟩
theorem At.same {x : Str} {k : Nat} {t t' : StT} {out : List Nat} {q : Bool} (h : At x k t out q) (e1 : t'.start = t.start) (e2 : t'.op = t.op) (e3 : t'.res = t.res) : At x k t' out q := by
  obtain ⟨s, h1, h2⟩ := h.st
  exact ⟨s, by rw [e1]; exact h1, by rw [e2, e3]; exact h2⟩

theorem strip_go (x : Str) : ∀ (l : List Nat) (k : Nat) (e : Bool) (q : Bool) (t : StT) (out : List Nat), x.cps.toList.drop k = l → k ≤ x.cps.toList.length → At x k t out q → sqOK q e l = true →
    At x x.cps.toList.length ((escGo k e l).foldl (stSt x) t) (out ++ sq q e l) false := by
  intro l
  induction l with
  | nil =>
    intro k e q t out hl hkn hA hs
    simp only [sqOK, Bool.and_eq_true, Bool.not_eq_true'] at hs
    obtain ⟨rfl, rfl⟩ := hs
    simp only [escGo, List.foldl_nil, sq, List.append_nil]
    have hk : x.cps.toList.length ≤ k := by
      have := congrArg List.length hl
      rw [List.length_drop, List.length_nil] at this
      omega
    have e : k = x.cps.toList.length := by omega
    rw [← e]; exact hA
  | cons c r ih =>
    intro k e q t out hl hkn hA hs
    have hr : x.cps.toList.drop (k + 1) = r := by
      have : x.cps.toList.drop (k + 1) = (x.cps.toList.drop k).drop 1 := by rw [List.drop_drop]
      rw [this, hl]; rfl
    have hkl : k < x.cps.toList.length := by
      have := congrArg List.length hl
      simp at this; simp; omega
    cases e with
    | true =>
      simp only [sqOK] at hs
      have hne : ((⟨#[92, c]⟩ : Str) == ⟨#[34]⟩) = false := by
        refine beq_eq_false_iff_ne.mpr fun h => ?_
        have := congrArg (fun s : Str => s.cps.size) h
        simp at this
      have := ih (k + 1) false q (stSt x t (.tup [.int k, .str ⟨#[92, c]⟩])) (if q then out else out ++ [c]) hr hkl ((hA.other hl).same (by simp [stSt, hne]) (by simp [stSt, hne]) (by simp [stSt, hne])) hs
      simp only [escGo, List.foldl_cons]
      cases q <;> simpa [sq] using this
    | false =>
      simp only [sqOK] at hs
      by_cases h1 : (c == 92) = true
      · rw [if_pos h1] at hs
        have := ih (k + 1) true q t (if q then out else out ++ [c]) hr hkl (hA.other hl) hs
        simp only [escGo, h1, if_true]
        cases q <;> simpa [sq, h1] using this
      · rw [if_neg h1] at hs
        simp only [escGo, h1]
        by_cases h2 : (c == 34) = true
        · rw [if_pos h2] at hs
          have hc : c = 34 := by simpa using h2
          subst hc
          obtain ⟨s, e1, e2⟩ := hA.st
          rcases e2 with ⟨rfl, e3, e4, rfl⟩ | ⟨rfl, o, e3, e4, e5, rfl⟩
          · have := ih (k + 1) false true (stSt x t (.tup [.int k, .str ⟨#[34]⟩])) (flt t.res ++ cut x.cps.toList s k) hr hkl ⟨s, by simp [stSt, e3, e1], .inr ⟨rfl, k, by simp [stSt, e3], e4, by omega, by simp [stSt, e3]⟩⟩ hs
            simpa [sq] using this
          · have := ih (k + 1) false false (stSt x t (.tup [.int k, .str ⟨#[34]⟩])) (flt t.res ++ cut x.cps.toList s o) hr hkl ?_ hs
            · simpa [sq] using this
            · by_cases h3 : (s : Int) = (o : Int)
              · have h3' : s = o := by omega
                subst h3'
                exact ⟨k + 1, by simp [stSt, e3, e1], .inl ⟨rfl, by simp [stSt, e3, e1], by omega, by simp [stSt, e3, e1, cut_nil]⟩⟩
              · refine ⟨k + 1, by simp [stSt, e3, e1, h3], .inl ⟨rfl, by simp [stSt, e3, e1, h3], by omega, ?_⟩⟩
                simp only [stSt, e3, e1]
                simp [h3, cut_nil, flt_snoc, slice_cut e4 (by omega : o ≤ x.cps.toList.length)]
        · rw [if_neg h2] at hs
          have hne : ((⟨#[c]⟩ : Str) == ⟨#[34]⟩) = false := by
            refine beq_eq_false_iff_ne.mpr fun h => ?_
            have := congrArg (fun s : Str => s.cps) h
            simp at this
            subst this
            exact h2 rfl
          have := ih (k + 1) false q (stSt x t (.tup [.int k, .str ⟨#[c]⟩])) (if q then out else out ++ [c]) hr hkl ((hA.other hl).same (by simp [stSt, hne]) (by simp [stSt, hne]) (by simp [stSt, hne])) hs
          rw [Bool.not_eq_true] at h1 h2
          cases q <;> simpa [sq, h1, h2] using this

theorem glued_flat (l : List Str) : (Txt.join ⟨#[]⟩ l).cps.toList = flt l := by
  have key : ∀ (l : List Str) (acc : Array Nat), (l.foldl (fun acc p => acc ++ (⟨#[]⟩ : Str).cps ++ p.cps) acc).toList = acc.toList ++ flt l := by
    intro l
    induction l with
    | nil => intro acc; simp [flt]
    | cons p l ih => intro acc; rw [List.foldl_cons, ih]; simp [flt]
  cases l with
  | nil => rfl
  | cons p l =>
    show (l.foldl (fun acc p => acc ++ (⟨#[]⟩ : Str).cps ++ p.cps) p.cps).toList = _
    rw [key]; simp [flt]

noncomputable abbrev occB (x : Str) : Nat → Array Nat × Nat → Id (ForInStep (Array Nat × Nat)) := fun i __s =>
  if (decide (__s.fst.size < 1) && decide (__s.snd ≤ i) && decide (i + (⟨#[34]⟩ : Str).length ≤ x.length) && Builtin.Str.subAt x ⟨#[34]⟩ i) = true then pure (ForInStep.yield (__s.fst.push i, i + (⟨#[34]⟩ : Str).length)) else pure (ForInStep.yield (__s.fst, __s.snd))
theorem occ_keep (x : Str) : ∀ (l : List Nat) (st : Array Nat × Nat), 1 ≤ st.1.size → 1 ≤ ((forIn l st (occB x) : Id _).run).1.size
  | [], st, h => h
  | i :: l, st, h => by
    rw [List.forIn_cons]
    have e : occB x i st = pure (ForInStep.yield (st.1, st.2)) := by
      have : decide (st.1.size < 1) = false := decide_eq_false (by omega)
      unfold occB
      rw [if_neg (by rw [this]; simp)]
    rw [e]
    exact occ_keep x l st h
theorem occ_some (x : Str) (j : Nat) (hj : j < x.length) (hs : Builtin.Str.subAt x ⟨#[34]⟩ j = true) : ∀ (l : List Nat), j ∈ l → 1 ≤ ((forIn l ((#[], 0) : Array Nat × Nat) (occB x) : Id _).run).1.size
  | [], h => nomatch h
  | i :: l, h => by
    rw [List.forIn_cons]
    by_cases hc : (decide (((#[], 0) : Array Nat × Nat).fst.size < 1) && decide (((#[], 0) : Array Nat × Nat).snd ≤ i) && decide (i + (⟨#[34]⟩ : Str).length ≤ x.length) && Builtin.Str.subAt x ⟨#[34]⟩ i) = true
    · have e : occB x i (#[], 0) = pure (ForInStep.yield (#[i], i + (⟨#[34]⟩ : Str).length)) := by
        unfold occB; rw [if_pos hc]; rfl
      rw [e]
      exact occ_keep x l (#[i], i + (⟨#[34]⟩ : Str).length) (Nat.le_refl _)
    · have e : occB x i (#[], 0) = pure (ForInStep.yield (#[], 0)) := by
        unfold occB; rw [if_neg hc]
      rw [e]
      refine occ_some x j hj hs l ((List.mem_cons.mp h).resolve_left fun q => hc ?_)
      subst q
      simp [hs, Str.length] at hj ⊢
      omega
/-- no quotation mark found, none there -/
theorem occ_none {x : Str} (h : (Builtin.Str.occurrences x ⟨#[34]⟩ 0 x.length 1).isEmpty = true) : 34 ∉ x.cps.toList := fun hm => by
  obtain ⟨j, hj, e⟩ := List.getElem_of_mem hm
  have hj' : j < x.length := by simpa [Str.length] using hj
  have hs : Builtin.Str.subAt x ⟨#[34]⟩ j = true := by
    unfold Builtin.Str.subAt
    rw [beq_iff_eq]
    apply Array.ext'
    simp only [Array.toList_extract, Str.length]
    rw [List.extract_eq_take_drop]
    show List.take (j + 1 - j) (List.drop j x.cps.toList) = [34]
    rw [show j + 1 - j = 1 by omega, List.drop_eq_getElem_cons hj, e]; rfl
  have := occ_some x j hj' hs (List.range' 0 ((x.length + 1 - 0 + 1 - 1) / 1)) (by
    rw [List.mem_range'_1]; simp; omega)
  unfold Builtin.Str.occurrences at h
  simp only [Std.Legacy.Range.forIn_eq_forIn_range', Std.Legacy.Range.size] at h
  have h2 : ((forIn (List.range' 0 ((x.length + 1 - 0 + 1 - 1) / 1)) ((#[], 0) : Array Nat × Nat) (occB x) : Id _).run).1.toList.isEmpty = true := h
  generalize ((forIn (List.range' 0 ((x.length + 1 - 0 + 1 - 1) / 1)) ((#[], 0) : Array Nat × Nat) (occB x) : Id _).run).1 = z at this h2
  simp at h2
  subst h2
  simp at this

theorem sq_plain : ∀ (l : List Nat) (e : Bool), 34 ∉ l → sq false e l = l
  | [], _, _ => rfl
  | c :: r, true, h => by simp [sq, sq_plain r false (fun q => h (List.mem_cons_of_mem _ q))]
  | c :: r, false, h => by
    have h1 : c ≠ 34 := fun q => h (q ▸ List.mem_cons_self)
    have h2 := fun b => sq_plain r b (fun q => h (List.mem_cons_of_mem _ q))
    by_cases h3 : c = 92 <;> simp [sq, h1, h2, h3]
theorem str_ext {x y : Str} (h : x.cps.toList = y.cps.toList) : x = y := by
  obtain ⟨⟨a⟩⟩ := x
  obtain ⟨⟨b⟩⟩ := y
  simp at h
  subst h; rfl
theorem stRes_flt {x : Str} (h : sqOK false false x.cps.toList = true) : flt (stRes x) = sq false false x.cps.toList := by
  have := strip_go x x.cps.toList 0 false false st0 [] (by simp) (Nat.zero_le _) ⟨0, rfl, .inl ⟨rfl, rfl, Nat.le_refl _, by simp [flt, cut_nil]⟩⟩ h
  obtain ⟨s, e1, e2⟩ := this.st
  rcases e2 with ⟨_, e3, e4, e5⟩ | ⟨e, _⟩
  · rw [List.nil_append] at e5
    rw [e5]
    change (stEnd x).start = _ at e1
    have hl : x.length = x.cps.toList.length := by simp [Str.length]
    unfold stRes
    by_cases h1 : (stEnd x).start < x.length
    · rw [if_pos h1, flt_snoc, e1, slice_rest e4]
      congr 1
      unfold cut
      rw [List.take_of_length_le (by rw [List.length_drop]; exact Nat.le_refl _)]
    · rw [if_neg h1]
      have : s = x.cps.toList.length := by omega
      rw [this, cut_nil, List.append_nil]; rfl
  · cases e
/-- the strip of a text -/
theorem stripP_sq {x : Str} (h : sqOK false false x.cps.toList = true) : stripP x = ⟨(sq false false x.cps.toList).toArray⟩ := by
  apply str_ext
  unfold stripP
  split
  · rename_i hc
    have : (Builtin.Str.occurrences x ⟨#[34]⟩ 0 x.length 1).isEmpty = true := by simpa [Txt.contains] using hc
    rw [sq_plain _ _ (occ_none this)]
  · rw [glued_flat, stRes_flt h]
end Mine
end
section
open PySem PySem.W PyProof.Rows PySem.Calls
namespace Mine
set_option maxRecDepth 100000
set_option maxHeartbeats 8000000

noncomputable abbrev Tx := List Nat
noncomputable def S (l : Tx) : Str := ⟨l.toArray⟩
theorem S_cps (l : Tx) : (S l).cps.toList = l := rfl
noncomputable def hidL : List Tx := [[34, 34], [34, 46, 34], [34, 92, 34, 34], [34, 10, 46, 34]]
noncomputable def endL : List Tx := [[10], [13], [13, 10]]
/-- what is typed for a row -/
noncomputable def typR (rows : List Tx) (e q k : Nat) : Tx := (if decide (k < e) || decide (e + 1 < k) then hidL.getD ((k + q) % 4) [] else []) ++ (rows.getD k [] ++ endL.getD ((k + q / 4) % 3) [])
noncomputable def typL (rows : List Tx) (e q : Nat) : Tx := 10 :: 13 :: (List.range rows.length).flatMap (typR rows e q)

theorem getD_S (l : List Tx) (i : Nat) : ((l.map S).getD i ⟨#[]⟩).cps.toList = l.getD i [] := by
  by_cases h : i < l.length
  · simp [h, S]
  · simp [Nat.le_of_not_lt h]
theorem hid_S : hidP = hidL.map S := rfl
theorem end_S : endP = endL.map S := rfl
theorem fd (n c : Nat) : Int.fdiv (n : Int) (c : Int) = ((n / c : Nat) : Int) := by
  rw [Int.fdiv_eq_ediv_of_nonneg _ (by omega)]; rfl
theorem fm (n c : Nat) : Int.fmod (n : Int) (c : Int) = ((n % c : Nat) : Int) := by
  rw [Int.fmod_eq_emod_of_nonneg _ (by omega)]; rfl
theorem app_cps (a b : Str) : (a ++ b).cps.toList = a.cps.toList ++ b.cps.toList := by show (a.cps ++ b.cps).toList = _; simp
theorem typ1_L (rows : List Tx) (e n k : Nat) (t : Str) : (typ1 (rows.map S) (e : Int) (n : Int) (k : Int) t).cps.toList = t.cps.toList ++ typR rows e (n / 60) k := by
  unfold typ1 typR
  have e1 : Int.fdiv (n : Int) 60 = ((n / 60 : Nat) : Int) := fd n 60
  have e2 : Int.fdiv (n : Int) 240 = ((n / 60 / 4 : Nat) : Int) := by rw [Nat.div_div_eq_div_mul]; exact fd n 240
  have e3 : (((k : Int) + ((n / 60 : Nat) : Int)).fmod 4).toNat = (k + n / 60) % 4 := by
    rw [← Int.natCast_add]; exact congrArg Int.toNat (fm (k + n / 60) 4)
  have e4 : (((k : Int) + ((n / 60 / 4 : Nat) : Int)).fmod 3).toNat = (k + n / 60 / 4) % 3 := by
    rw [← Int.natCast_add]; exact congrArg Int.toNat (fm (k + n / 60 / 4) 3)
  have d1 : decide ((k : Int) < (e : Int)) = decide (k < e) := decide_eq_decide.mpr (by omega)
  have d2 : decide ((e : Int) + 1 < (k : Int)) = decide (e + 1 < k) := decide_eq_decide.mpr (by omega)
  rw [e1, e2, e3, e4, d1, d2, Int.toNat_natCast]
  simp only [app_cps]
  rw [getD_S, end_S, getD_S]
  cases hc : decide (k < e) || decide (e + 1 < k)
  · simp
  · simp only [if_true, app_cps, hid_S, getD_S]
    rw [List.append_assoc]
theorem typ_go (rows : List Tx) (e n : Nat) : ∀ (ks : List Nat) (t : GrT), ((ks.map fun (i : Nat) => PV.int (0 + (i : Int))).foldl (grSt (rows.map S) (e : Int) (n : Int)) t).typed.cps.toList = t.typed.cps.toList ++ ks.flatMap (typR rows e (n / 60))
  | [], t => by simp
  | k :: ks, t => by
    rw [List.map_cons, List.foldl_cons, typ_go rows e n ks]
    show (typ1 (rows.map S) (e : Int) (n : Int) (0 + (k : Int)) t.typed).cps.toList ++ _ = _
    rw [Int.zero_add, typ1_L, List.flatMap_cons, List.append_assoc]
theorem typ_eq (rows : List Tx) (e n : Nat) : (typedP (rows.map S) (e : Int) (n : Int)).cps.toList = typL rows e (n / 60) := by
  unfold typedP rangeL
  rw [typ_go]
  simp [typL]

theorem normed_len : ∀ l : Tx, (normed l).length ≤ 2 * l.length
  | [] => Nat.zero_le _
  | [c] => by unfold normed; split <;> simp
  | c :: d :: r => by
    have h1 := normed_len r
    have h2 := normed_len (d :: r)
    unfold normed
    split
    · split
      · simp only [List.length_cons] at *; omega
      · simp only [List.length_cons] at *; omega
    · simp only [List.length_cons] at *; omega
theorem dotted_len : ∀ (b : Bool) (l : Tx), (dotted b l).length ≤ 2 * l.length
  | _, [] => Nat.zero_le _
  | b, c :: r => by
    have h1 := dotted_len false r
    have h2 := dotted_len (c == 10) r
    unfold dotted
    split
    · simp only [List.length_cons] at *; omega
    · simp only [List.length_cons] at *; omega
theorem sq_len : ∀ (q e : Bool) (l : Tx), (sq q e l).length ≤ l.length
  | _, _, [] => Nat.zero_le _
  | q, true, c :: r => by
    have h := sq_len q false r
    unfold sq
    split <;> simp only [List.length_cons] <;> omega
  | q, false, c :: r => by
    have h1 := fun a b => sq_len a b r
    have h2 := h1 q true
    have h3 := h1 (!q) false
    have h4 := h1 q false
    unfold sq
    split
    · split <;> simp only [List.length_cons] <;> omega
    · split
      · simp only [List.length_cons]; omega
      · split <;> simp only [List.length_cons] <;> omega
theorem getD_lenL {l : List Tx} {m : Nat} (h : ∀ r ∈ l, r.length ≤ m) (i : Nat) : (l.getD i []).length ≤ m := by
  by_cases hi : i < l.length
  · simp [hi]; exact h _ (List.getElem_mem hi)
  · simp [Nat.le_of_not_lt hi]
theorem flat_len {α β : Type} (f : α → List β) (m : Nat) : ∀ l : List α, (∀ x ∈ l, (f x).length ≤ m) → (l.flatMap f).length ≤ l.length * m
  | [], _ => by simp
  | x :: l, h => by
    have h1 := h x List.mem_cons_self
    have h2 := flat_len f m l fun y hy => h y (List.mem_cons_of_mem _ hy)
    rw [List.flatMap_cons, List.length_append, List.length_cons, Nat.succ_mul]
    omega
theorem typL_len {rows : List Tx} (hl : rows.length ≤ 7) (h : ∀ r ∈ rows, r.length ≤ 20) (e q : Nat) : (typL rows e q).length ≤ 184 := by
  have key := flat_len (typR rows e q) 26 (List.range rows.length) fun k _ => by
    have h1 := getD_lenL (l := hidL) (m := 4) (by decide) ((k + q) % 4)
    have h2 := getD_lenL h k
    have h3 := getD_lenL (l := endL) (m := 2) (by decide) ((k + q / 4) % 3)
    unfold typR
    split <;> simp only [List.length_append, List.length_nil] <;> omega
  rw [List.length_range] at key
  simp only [typL, List.length_cons]
  omega
end Mine
end
section
open PySem PySem.W PyProof.Rows PySem.Calls
namespace Mine
set_option maxRecDepth 100000
set_option maxHeartbeats 8000000

theorem join_ok {l : List Str} (h : (flt l).length ≤ 1000) : JoinOk ⟨#[]⟩ l = true := by
  have key : ∀ (l : List Str) (n : Nat), l.foldl (fun a b => a + b.length + (⟨#[]⟩ : Str).length) n = n + (flt l).length := by
    intro l
    induction l with
    | nil => intro n; rfl
    | cons p l ih =>
      intro n
      rw [List.foldl_cons, ih]
      simp [flt, Str.length]
      omega
  unfold JoinOk
  rw [List.foldl_toArray, key]
  simp only [Nat.zero_add, Bool.not_eq_true', Builtin.Str.tooLong]
  simp
  exact Nat.le_trans h (by decide)

/-- what stands behind no quotation -/
noncomputable def seen (rows : List Tx) (e : Nat) : List Tx := (List.range rows.length).map fun i => if i == e || i == e + 1 then 46 :: rows.getD i [] else rows.getD i []
noncomputable def linesL (rd : List Tx) : Tx := 13 :: 10 :: 13 :: 10 :: rd.flatMap fun r => r ++ [13, 10]
noncomputable def chkD (d : Tx) (rd : Tx) : Bool := sqOK false false d && (sq false false d == rd)
noncomputable def chkT (rows : List Tx) (e q : Nat) : Bool := chkD (dotted true (normed (typL rows e q))) (linesL (seen rows e))
noncomputable def dotsIn : Tx → Nat
  | [] => 0
  | c :: r => if c == 46 then dotsIn r + 1 else 0
/-- how the rows grow -/
noncomputable def grL (rows : List Tx) (e : Nat) : List Tx :=
  (seen rows e).take e ++ [46 :: rows.getD e [] ++ [40], [46], List.replicate (dotsIn (rows.getD (e + 1) []) + 1) 46 ++ [41] ++ (rows.getD (e + 1) []).drop (dotsIn (rows.getD (e + 1) []))] ++ (seen rows e).drop (e + 2)
noncomputable def grownR (R : List Str) (e : Int) : List Str :=
  pick R none (some e) none ++ [R.getD e.toNat ⟨#[]⟩ ++ ⟨#[40]⟩, ⟨#[46]⟩, Txt.slice (bhP R e) none (some (dtP (bhP R e))) ++ ⟨#[41]⟩ ++ Txt.slice (bhP R e) (some (dtP (bhP R e))) none] ++ pick R (some (e + 2)) none none
noncomputable def RFs (R : List Str) (e : Int) : Bool :=
  decide ((pick R none (some e) none).length ≤ 100) && decide ((pick R (some (e + 2)) none none).length ≤ 100) && decide ((Txt.lstripChars (bhP R e) ⟨#[46]⟩).length ≤ 200)
noncomputable def RFb (rows : List Tx) (e : Nat) : Bool :=
  decide (e + 1 < rows.length) && decide (rows.length ≤ 7) && rows.all (fun r => decide (r.length ≤ 20))
  && decide (Txt.split (S (linesL (seen rows e))) ⟨#[13, 10]⟩ = (([] :: [] :: seen rows e) ++ [[]]).map S)
  && decide (pick (([] :: [] :: seen rows e) ++ [[]]) (some 2) (some (-1)) none = seen rows e)
  && decide (grownR ((seen rows e).map S) (e : Int) = (grL rows e).map S)
  && RFs ((seen rows e).map S) (e : Int)

theorem seen_len (rows : List Tx) (e : Nat) : (seen rows e).length = rows.length := by simp [seen]
theorem seen_row {rows : List Tx} (h : ∀ r ∈ rows, r.length ≤ 20) (e : Nat) : ∀ r ∈ seen rows e, r.length ≤ 21 := by
  intro r hr
  obtain ⟨i, hi, rfl⟩ := List.mem_map.mp hr
  have := getD_lenL h i
  split
  · simp only [List.length_cons]; omega
  · omega
theorem S_len (l : Tx) : (S l).length = l.length := by simp [S, Str.length]
theorem len_cps (x : Str) : x.length = x.cps.toList.length := by simp [Str.length]

theorem grF {rows : List Tx} {e n : Nat} (hb : RFb rows e = true) (hT : chkT rows e (n / 60) = true) (hn : n < 720) :
    GrF (rows.map S) (e : Int) (n : Int) ∧ grownP (rows.map S) (e : Int) (n : Int) = (grL rows e).map S := by
  simp only [RFb, RFs, Bool.and_eq_true, decide_eq_true_eq, List.all_eq_true] at hb
  obtain ⟨⟨⟨⟨⟨⟨b1, b2⟩, b3⟩, b4⟩, b5⟩, b6⟩, ⟨b7, b8⟩, b9⟩ := hb
  simp only [chkT, chkD, Bool.and_eq_true, beq_iff_eq] at hT
  obtain ⟨t1, t2⟩ := hT
  have ht := typ_eq rows e n
  have tl := typL_len b2 b3 e (n / 60)
  have nl := normed_len (typL rows e (n / 60))
  have dl := dotted_len true (normed (typL rows e (n / 60)))
  have sl := sq_len false false (dotted true (normed (typL rows e (n / 60))))
  have q1 : (quotP (rows.map S) (e : Int) (n : Int)).cps.toList = dotted true (normed (typL rows e (n / 60))) := by
    unfold quotP; rw [ht]
  have q2 : sqOK false false (quotP (rows.map S) (e : Int) (n : Int)).cps.toList = true := by rw [q1]; exact t1
  have q3 : stripP (quotP (rows.map S) (e : Int) (n : Int)) = S (linesL (seen rows e)) := by
    rw [stripP_sq q2, q1, t2]; rfl
  have rd : readP (rows.map S) (e : Int) (n : Int) = (seen rows e).map S := by
    show pick (Txt.split (stripP (quotP (rows.map S) (e : Int) (n : Int))) ⟨#[13, 10]⟩) (some 2) (some (-1)) none = _
    rw [q3, b4, pick_map, b5]
  have hrow : ∀ r ∈ rows.map S, r.length ≤ 20 := fun r hr => by
    obtain ⟨l, hl, rfl⟩ := List.mem_map.mp hr
    rw [S_len]; exact b3 l hl
  have hrr : ∀ r ∈ (seen rows e).map S, r.length ≤ 21 := fun r hr => by
    obtain ⟨l, hl, rfl⟩ := List.mem_map.mp hr
    rw [S_len]; exact seen_row b3 e l hl
  have hbl : (bhP ((seen rows e).map S) (e : Int)).length ≤ 21 := getD_len hrr _
  refine ⟨?_, ?_⟩
  · exact {
      he0 := by omega
      he1 := by rw [List.length_map]; omega
      hlen := by rw [List.length_map]; omega
      hrow := hrow
      hx := ⟨by omega, by omega⟩
      ht := by rw [len_cps, ht]; omega
      hn := by rw [ht]; omega
      hq := by rw [len_cps, q1]; omega
      hok := escOK_of_sqOK _ _ _ q2
      hJ := join_ok (by rw [stRes_flt q2, q1]; omega)
      hs := by rw [stripP_sq q2, len_cps, q1]; show (sq _ _ _).length ≤ _; omega
      hsp := by rw [q3, b4]; simp only [List.length_map, List.length_append, List.length_cons, List.length_nil, seen_len]; omega
      hrd := by rw [rd, List.length_map, List.length_map, seen_len]
      hrr := fun r hr => by rw [rd] at hr; exact Nat.le_trans (hrr r hr) (by decide)
      z1 := by rw [rd]; exact b7
      z2 := by rw [rd]; exact b8
      z3 := by rw [rd]; exact Nat.le_trans (Txt.slice_le _ _ _) (Nat.le_trans hbl (by decide))
      z4 := by rw [rd]; exact Nat.le_trans (Txt.slice_le _ _ _) (Nat.le_trans hbl (by decide))
      z5 := by rw [rd]; exact b9 }
  · show grownR (readP (rows.map S) (e : Int) (n : Int)) (e : Int) = _
    rw [rd, b6]
end Mine
end
section
open PySem PySem.W PyProof.Rows PySem.Calls
namespace Mine
set_option maxRecDepth 100000
set_option maxHeartbeats 8000000

/-- one way to grow -/
noncomputable def okE (rows : List Tx) (e : Nat) : Bool := RFb rows e && (List.range 12).all (chkT rows e)
noncomputable def okAll (n : Nat) (rows : List Tx) : Prop := ∀ e, e < n + 2 → okE rows e = true
theorem t0_0 : okAll 0 [[46], [46], [46]] := by
  intro e he
  match e with
  | 0 => show okE _ _ = true; decide +kernel
  | 1 => show okE _ _ = true; decide +kernel
  | e + 2 => exact absurd he (by omega)
theorem t1_0 : okAll 1 [[46, 46, 40], [46], [46, 46, 41], [46]] := by
  intro e he
  match e with
  | 0 => show okE _ _ = true; decide +kernel
  | 1 => show okE _ _ = true; decide +kernel
  | 2 => show okE _ _ = true; decide +kernel
  | e + 3 => exact absurd he (by omega)
theorem t1_1 : okAll 1 [[46], [46, 46, 40], [46], [46, 46, 41]] := by
  intro e he
  match e with
  | 0 => show okE _ _ = true; decide +kernel
  | 1 => show okE _ _ = true; decide +kernel
  | 2 => show okE _ _ = true; decide +kernel
  | e + 3 => exact absurd he (by omega)
theorem t2_0 : okAll 2 [[46, 46, 46, 40, 40], [46], [46, 46, 41], [46, 46, 41], [46]] := by
  intro e he
  match e with
  | 0 => show okE _ _ = true; decide +kernel
  | 1 => show okE _ _ = true; decide +kernel
  | 2 => show okE _ _ = true; decide +kernel
  | 3 => show okE _ _ = true; decide +kernel
  | e + 4 => exact absurd he (by omega)
theorem t2_1 : okAll 2 [[46, 46, 40], [46, 46, 40], [46], [46, 46, 46, 41, 41], [46]] := by
  intro e he
  match e with
  | 0 => show okE _ _ = true; decide +kernel
  | 1 => show okE _ _ = true; decide +kernel
  | 2 => show okE _ _ = true; decide +kernel
  | 3 => show okE _ _ = true; decide +kernel
  | e + 4 => exact absurd he (by omega)
theorem t2_2 : okAll 2 [[46, 46, 40], [46], [46, 46, 46, 41, 40], [46], [46, 46, 41]] := by
  intro e he
  match e with
  | 0 => show okE _ _ = true; decide +kernel
  | 1 => show okE _ _ = true; decide +kernel
  | 2 => show okE _ _ = true; decide +kernel
  | 3 => show okE _ _ = true; decide +kernel
  | e + 4 => exact absurd he (by omega)
theorem t2_3 : okAll 2 [[46], [46, 46, 46, 40, 40], [46], [46, 46, 41], [46, 46, 41]] := by
  intro e he
  match e with
  | 0 => show okE _ _ = true; decide +kernel
  | 1 => show okE _ _ = true; decide +kernel
  | 2 => show okE _ _ = true; decide +kernel
  | 3 => show okE _ _ = true; decide +kernel
  | e + 4 => exact absurd he (by omega)
theorem t2_4 : okAll 2 [[46], [46, 46, 40], [46, 46, 40], [46], [46, 46, 46, 41, 41]] := by
  intro e he
  match e with
  | 0 => show okE _ _ = true; decide +kernel
  | 1 => show okE _ _ = true; decide +kernel
  | 2 => show okE _ _ = true; decide +kernel
  | 3 => show okE _ _ = true; decide +kernel
  | e + 4 => exact absurd he (by omega)
theorem t3_0 : okAll 3 [[46, 46, 46, 46, 40, 40, 40], [46], [46, 46, 41], [46, 46, 41], [46, 46, 41], [46]] := by
  intro e he
  match e with
  | 0 => show okE _ _ = true; decide +kernel
  | 1 => show okE _ _ = true; decide +kernel
  | 2 => show okE _ _ = true; decide +kernel
  | 3 => show okE _ _ = true; decide +kernel
  | 4 => show okE _ _ = true; decide +kernel
  | e + 5 => exact absurd he (by omega)
theorem t3_1 : okAll 3 [[46, 46, 46, 40, 40], [46, 46, 40], [46], [46, 46, 46, 41, 41], [46, 46, 41], [46]] := by
  intro e he
  match e with
  | 0 => show okE _ _ = true; decide +kernel
  | 1 => show okE _ _ = true; decide +kernel
  | 2 => show okE _ _ = true; decide +kernel
  | 3 => show okE _ _ = true; decide +kernel
  | 4 => show okE _ _ = true; decide +kernel
  | e + 5 => exact absurd he (by omega)
theorem t3_2 : okAll 3 [[46, 46, 46, 40, 40], [46], [46, 46, 46, 41, 40], [46], [46, 46, 46, 41, 41], [46]] := by
  intro e he
  match e with
  | 0 => show okE _ _ = true; decide +kernel
  | 1 => show okE _ _ = true; decide +kernel
  | 2 => show okE _ _ = true; decide +kernel
  | 3 => show okE _ _ = true; decide +kernel
  | 4 => show okE _ _ = true; decide +kernel
  | e + 5 => exact absurd he (by omega)
theorem t3_3 : okAll 3 [[46, 46, 46, 40, 40], [46], [46, 46, 41], [46, 46, 46, 41, 40], [46], [46, 46, 41]] := by
  intro e he
  match e with
  | 0 => show okE _ _ = true; decide +kernel
  | 1 => show okE _ _ = true; decide +kernel
  | 2 => show okE _ _ = true; decide +kernel
  | 3 => show okE _ _ = true; decide +kernel
  | 4 => show okE _ _ = true; decide +kernel
  | e + 5 => exact absurd he (by omega)
theorem t3_4 : okAll 3 [[46, 46, 40], [46, 46, 46, 40, 40], [46], [46, 46, 41], [46, 46, 46, 41, 41], [46]] := by
  intro e he
  match e with
  | 0 => show okE _ _ = true; decide +kernel
  | 1 => show okE _ _ = true; decide +kernel
  | 2 => show okE _ _ = true; decide +kernel
  | 3 => show okE _ _ = true; decide +kernel
  | 4 => show okE _ _ = true; decide +kernel
  | e + 5 => exact absurd he (by omega)
theorem t3_5 : okAll 3 [[46, 46, 40], [46, 46, 40], [46, 46, 40], [46], [46, 46, 46, 46, 41, 41, 41], [46]] := by
  intro e he
  match e with
  | 0 => show okE _ _ = true; decide +kernel
  | 1 => show okE _ _ = true; decide +kernel
  | 2 => show okE _ _ = true; decide +kernel
  | 3 => show okE _ _ = true; decide +kernel
  | 4 => show okE _ _ = true; decide +kernel
  | e + 5 => exact absurd he (by omega)
theorem t3_6 : okAll 3 [[46, 46, 40], [46, 46, 40], [46], [46, 46, 46, 46, 41, 41, 40], [46], [46, 46, 41]] := by
  intro e he
  match e with
  | 0 => show okE _ _ = true; decide +kernel
  | 1 => show okE _ _ = true; decide +kernel
  | 2 => show okE _ _ = true; decide +kernel
  | 3 => show okE _ _ = true; decide +kernel
  | 4 => show okE _ _ = true; decide +kernel
  | e + 5 => exact absurd he (by omega)
theorem t3_7 : okAll 3 [[46, 46, 40], [46], [46, 46, 46, 46, 41, 40, 40], [46], [46, 46, 41], [46, 46, 41]] := by
  intro e he
  match e with
  | 0 => show okE _ _ = true; decide +kernel
  | 1 => show okE _ _ = true; decide +kernel
  | 2 => show okE _ _ = true; decide +kernel
  | 3 => show okE _ _ = true; decide +kernel
  | 4 => show okE _ _ = true; decide +kernel
  | e + 5 => exact absurd he (by omega)
theorem t3_8 : okAll 3 [[46, 46, 40], [46], [46, 46, 46, 41, 40], [46, 46, 40], [46], [46, 46, 46, 41, 41]] := by
  intro e he
  match e with
  | 0 => show okE _ _ = true; decide +kernel
  | 1 => show okE _ _ = true; decide +kernel
  | 2 => show okE _ _ = true; decide +kernel
  | 3 => show okE _ _ = true; decide +kernel
  | 4 => show okE _ _ = true; decide +kernel
  | e + 5 => exact absurd he (by omega)
theorem t3_9 : okAll 3 [[46], [46, 46, 46, 46, 40, 40, 40], [46], [46, 46, 41], [46, 46, 41], [46, 46, 41]] := by
  intro e he
  match e with
  | 0 => show okE _ _ = true; decide +kernel
  | 1 => show okE _ _ = true; decide +kernel
  | 2 => show okE _ _ = true; decide +kernel
  | 3 => show okE _ _ = true; decide +kernel
  | 4 => show okE _ _ = true; decide +kernel
  | e + 5 => exact absurd he (by omega)
theorem t3_10 : okAll 3 [[46], [46, 46, 46, 40, 40], [46, 46, 40], [46], [46, 46, 46, 41, 41], [46, 46, 41]] := by
  intro e he
  match e with
  | 0 => show okE _ _ = true; decide +kernel
  | 1 => show okE _ _ = true; decide +kernel
  | 2 => show okE _ _ = true; decide +kernel
  | 3 => show okE _ _ = true; decide +kernel
  | 4 => show okE _ _ = true; decide +kernel
  | e + 5 => exact absurd he (by omega)
theorem t3_11 : okAll 3 [[46], [46, 46, 46, 40, 40], [46], [46, 46, 46, 41, 40], [46], [46, 46, 46, 41, 41]] := by
  intro e he
  match e with
  | 0 => show okE _ _ = true; decide +kernel
  | 1 => show okE _ _ = true; decide +kernel
  | 2 => show okE _ _ = true; decide +kernel
  | 3 => show okE _ _ = true; decide +kernel
  | 4 => show okE _ _ = true; decide +kernel
  | e + 5 => exact absurd he (by omega)
theorem t3_12 : okAll 3 [[46], [46, 46, 40], [46, 46, 46, 40, 40], [46], [46, 46, 41], [46, 46, 46, 41, 41]] := by
  intro e he
  match e with
  | 0 => show okE _ _ = true; decide +kernel
  | 1 => show okE _ _ = true; decide +kernel
  | 2 => show okE _ _ = true; decide +kernel
  | 3 => show okE _ _ = true; decide +kernel
  | 4 => show okE _ _ = true; decide +kernel
  | e + 5 => exact absurd he (by omega)
theorem t3_13 : okAll 3 [[46], [46, 46, 40], [46, 46, 40], [46, 46, 40], [46], [46, 46, 46, 46, 41, 41, 41]] := by
  intro e he
  match e with
  | 0 => show okE _ _ = true; decide +kernel
  | 1 => show okE _ _ = true; decide +kernel
  | 2 => show okE _ _ = true; decide +kernel
  | 3 => show okE _ _ = true; decide +kernel
  | 4 => show okE _ _ = true; decide +kernel
  | e + 5 => exact absurd he (by omega)
noncomputable def tab0 : List (List Tx) := [[[46], [46], [46]]]
noncomputable def tab1 : List (List Tx) := [[[46, 46, 40], [46], [46, 46, 41], [46]],
  [[46], [46, 46, 40], [46], [46, 46, 41]]]
noncomputable def tab2 : List (List Tx) := [[[46, 46, 46, 40, 40], [46], [46, 46, 41], [46, 46, 41], [46]],
  [[46, 46, 40], [46, 46, 40], [46], [46, 46, 46, 41, 41], [46]],
  [[46, 46, 40], [46], [46, 46, 46, 41, 40], [46], [46, 46, 41]],
  [[46], [46, 46, 46, 40, 40], [46], [46, 46, 41], [46, 46, 41]],
  [[46], [46, 46, 40], [46, 46, 40], [46], [46, 46, 46, 41, 41]]]
noncomputable def tab3 : List (List Tx) := [[[46, 46, 46, 46, 40, 40, 40], [46], [46, 46, 41], [46, 46, 41], [46, 46, 41], [46]],
  [[46, 46, 46, 40, 40], [46, 46, 40], [46], [46, 46, 46, 41, 41], [46, 46, 41], [46]],
  [[46, 46, 46, 40, 40], [46], [46, 46, 46, 41, 40], [46], [46, 46, 46, 41, 41], [46]],
  [[46, 46, 46, 40, 40], [46], [46, 46, 41], [46, 46, 46, 41, 40], [46], [46, 46, 41]],
  [[46, 46, 40], [46, 46, 46, 40, 40], [46], [46, 46, 41], [46, 46, 46, 41, 41], [46]],
  [[46, 46, 40], [46, 46, 40], [46, 46, 40], [46], [46, 46, 46, 46, 41, 41, 41], [46]],
  [[46, 46, 40], [46, 46, 40], [46], [46, 46, 46, 46, 41, 41, 40], [46], [46, 46, 41]],
  [[46, 46, 40], [46], [46, 46, 46, 46, 41, 40, 40], [46], [46, 46, 41], [46, 46, 41]],
  [[46, 46, 40], [46], [46, 46, 46, 41, 40], [46, 46, 40], [46], [46, 46, 46, 41, 41]],
  [[46], [46, 46, 46, 46, 40, 40, 40], [46], [46, 46, 41], [46, 46, 41], [46, 46, 41]],
  [[46], [46, 46, 46, 40, 40], [46, 46, 40], [46], [46, 46, 46, 41, 41], [46, 46, 41]],
  [[46], [46, 46, 46, 40, 40], [46], [46, 46, 46, 41, 40], [46], [46, 46, 46, 41, 41]],
  [[46], [46, 46, 40], [46, 46, 46, 40, 40], [46], [46, 46, 41], [46, 46, 46, 41, 41]],
  [[46], [46, 46, 40], [46, 46, 40], [46, 46, 40], [46], [46, 46, 46, 46, 41, 41, 41]]]
noncomputable def tab4 : List (List Tx) := [[[46, 46, 46, 46, 46, 40, 40, 40, 40], [46], [46, 46, 41], [46, 46, 41], [46, 46, 41], [46, 46, 41], [46]],
  [[46, 46, 46, 46, 40, 40, 40], [46, 46, 40], [46], [46, 46, 46, 41, 41], [46, 46, 41], [46, 46, 41], [46]],
  [[46, 46, 46, 46, 40, 40, 40], [46], [46, 46, 46, 41, 40], [46], [46, 46, 46, 41, 41], [46, 46, 41], [46]],
  [[46, 46, 46, 46, 40, 40, 40], [46], [46, 46, 41], [46, 46, 46, 41, 40], [46], [46, 46, 46, 41, 41], [46]],
  [[46, 46, 46, 46, 40, 40, 40], [46], [46, 46, 41], [46, 46, 41], [46, 46, 46, 41, 40], [46], [46, 46, 41]],
  [[46, 46, 46, 40, 40], [46, 46, 46, 40, 40], [46], [46, 46, 41], [46, 46, 46, 41, 41], [46, 46, 41], [46]],
  [[46, 46, 46, 40, 40], [46, 46, 40], [46, 46, 40], [46], [46, 46, 46, 46, 41, 41, 41], [46, 46, 41], [46]],
  [[46, 46, 46, 40, 40], [46, 46, 40], [46], [46, 46, 46, 46, 41, 41, 40], [46], [46, 46, 46, 41, 41], [46]],
  [[46, 46, 46, 40, 40], [46, 46, 40], [46], [46, 46, 46, 41, 41], [46, 46, 46, 41, 40], [46], [46, 46, 41]],
  [[46, 46, 46, 40, 40], [46], [46, 46, 46, 46, 41, 40, 40], [46], [46, 46, 41], [46, 46, 46, 41, 41], [46]],
  [[46, 46, 46, 40, 40], [46], [46, 46, 46, 41, 40], [46, 46, 40], [46], [46, 46, 46, 46, 41, 41, 41], [46]],
  [[46, 46, 46, 40, 40], [46], [46, 46, 46, 41, 40], [46], [46, 46, 46, 46, 41, 41, 40], [46], [46, 46, 41]],
  [[46, 46, 46, 40, 40], [46], [46, 46, 41], [46, 46, 46, 46, 41, 40, 40], [46], [46, 46, 41], [46, 46, 41]],
  [[46, 46, 46, 40, 40], [46], [46, 46, 41], [46, 46, 46, 41, 40], [46, 46, 40], [46], [46, 46, 46, 41, 41]],
  [[46, 46, 40], [46, 46, 46, 46, 40, 40, 40], [46], [46, 46, 41], [46, 46, 41], [46, 46, 46, 41, 41], [46]],
  [[46, 46, 40], [46, 46, 46, 40, 40], [46, 46, 40], [46], [46, 46, 46, 41, 41], [46, 46, 46, 41, 41], [46]],
  [[46, 46, 40], [46, 46, 46, 40, 40], [46], [46, 46, 46, 41, 40], [46], [46, 46, 46, 46, 41, 41, 41], [46]],
  [[46, 46, 40], [46, 46, 46, 40, 40], [46], [46, 46, 41], [46, 46, 46, 46, 41, 41, 40], [46], [46, 46, 41]],
  [[46, 46, 40], [46, 46, 40], [46, 46, 46, 40, 40], [46], [46, 46, 41], [46, 46, 46, 46, 41, 41, 41], [46]],
  [[46, 46, 40], [46, 46, 40], [46, 46, 40], [46, 46, 40], [46], [46, 46, 46, 46, 46, 41, 41, 41, 41], [46]],
  [[46, 46, 40], [46, 46, 40], [46, 46, 40], [46], [46, 46, 46, 46, 46, 41, 41, 41, 40], [46], [46, 46, 41]],
  [[46, 46, 40], [46, 46, 40], [46], [46, 46, 46, 46, 46, 41, 41, 40, 40], [46], [46, 46, 41], [46, 46, 41]],
  [[46, 46, 40], [46, 46, 40], [46], [46, 46, 46, 46, 41, 41, 40], [46, 46, 40], [46], [46, 46, 46, 41, 41]],
  [[46, 46, 40], [46], [46, 46, 46, 46, 46, 41, 40, 40, 40], [46], [46, 46, 41], [46, 46, 41], [46, 46, 41]],
  [[46, 46, 40], [46], [46, 46, 46, 46, 41, 40, 40], [46, 46, 40], [46], [46, 46, 46, 41, 41], [46, 46, 41]],
  [[46, 46, 40], [46], [46, 46, 46, 46, 41, 40, 40], [46], [46, 46, 46, 41, 40], [46], [46, 46, 46, 41, 41]],
  [[46, 46, 40], [46], [46, 46, 46, 41, 40], [46, 46, 46, 40, 40], [46], [46, 46, 41], [46, 46, 46, 41, 41]],
  [[46, 46, 40], [46], [46, 46, 46, 41, 40], [46, 46, 40], [46, 46, 40], [46], [46, 46, 46, 46, 41, 41, 41]],
  [[46], [46, 46, 46, 46, 46, 40, 40, 40, 40], [46], [46, 46, 41], [46, 46, 41], [46, 46, 41], [46, 46, 41]],
  [[46], [46, 46, 46, 46, 40, 40, 40], [46, 46, 40], [46], [46, 46, 46, 41, 41], [46, 46, 41], [46, 46, 41]],
  [[46], [46, 46, 46, 46, 40, 40, 40], [46], [46, 46, 46, 41, 40], [46], [46, 46, 46, 41, 41], [46, 46, 41]],
  [[46], [46, 46, 46, 46, 40, 40, 40], [46], [46, 46, 41], [46, 46, 46, 41, 40], [46], [46, 46, 46, 41, 41]],
  [[46], [46, 46, 46, 40, 40], [46, 46, 46, 40, 40], [46], [46, 46, 41], [46, 46, 46, 41, 41], [46, 46, 41]],
  [[46], [46, 46, 46, 40, 40], [46, 46, 40], [46, 46, 40], [46], [46, 46, 46, 46, 41, 41, 41], [46, 46, 41]],
  [[46], [46, 46, 46, 40, 40], [46, 46, 40], [46], [46, 46, 46, 46, 41, 41, 40], [46], [46, 46, 46, 41, 41]],
  [[46], [46, 46, 46, 40, 40], [46], [46, 46, 46, 46, 41, 40, 40], [46], [46, 46, 41], [46, 46, 46, 41, 41]],
  [[46], [46, 46, 46, 40, 40], [46], [46, 46, 46, 41, 40], [46, 46, 40], [46], [46, 46, 46, 46, 41, 41, 41]],
  [[46], [46, 46, 40], [46, 46, 46, 46, 40, 40, 40], [46], [46, 46, 41], [46, 46, 41], [46, 46, 46, 41, 41]],
  [[46], [46, 46, 40], [46, 46, 46, 40, 40], [46, 46, 40], [46], [46, 46, 46, 41, 41], [46, 46, 46, 41, 41]],
  [[46], [46, 46, 40], [46, 46, 46, 40, 40], [46], [46, 46, 46, 41, 40], [46], [46, 46, 46, 46, 41, 41, 41]],
  [[46], [46, 46, 40], [46, 46, 40], [46, 46, 46, 40, 40], [46], [46, 46, 41], [46, 46, 46, 46, 41, 41, 41]],
  [[46], [46, 46, 40], [46, 46, 40], [46, 46, 40], [46, 46, 40], [46], [46, 46, 46, 46, 46, 41, 41, 41, 41]]]
theorem tab0_ok : ∀ rows ∈ tab0, okAll 0 rows := by
  show ∀ rows ∈ [_], _
  refine List.forall_mem_cons.mpr ⟨t0_0, ?_⟩
  exact fun _ h => nomatch h
theorem tab1_ok : ∀ rows ∈ tab1, okAll 1 rows := by
  show ∀ rows ∈ [_, _], _
  refine List.forall_mem_cons.mpr ⟨t1_0, ?_⟩
  refine List.forall_mem_cons.mpr ⟨t1_1, ?_⟩
  exact fun _ h => nomatch h
theorem tab2_ok : ∀ rows ∈ tab2, okAll 2 rows := by
  show ∀ rows ∈ [_, _, _, _, _], _
  refine List.forall_mem_cons.mpr ⟨t2_0, ?_⟩
  refine List.forall_mem_cons.mpr ⟨t2_1, ?_⟩
  refine List.forall_mem_cons.mpr ⟨t2_2, ?_⟩
  refine List.forall_mem_cons.mpr ⟨t2_3, ?_⟩
  refine List.forall_mem_cons.mpr ⟨t2_4, ?_⟩
  exact fun _ h => nomatch h
theorem tab3_ok : ∀ rows ∈ tab3, okAll 3 rows := by
  show ∀ rows ∈ [_, _, _, _, _, _, _, _, _, _, _, _, _, _], _
  refine List.forall_mem_cons.mpr ⟨t3_0, ?_⟩
  refine List.forall_mem_cons.mpr ⟨t3_1, ?_⟩
  refine List.forall_mem_cons.mpr ⟨t3_2, ?_⟩
  refine List.forall_mem_cons.mpr ⟨t3_3, ?_⟩
  refine List.forall_mem_cons.mpr ⟨t3_4, ?_⟩
  refine List.forall_mem_cons.mpr ⟨t3_5, ?_⟩
  refine List.forall_mem_cons.mpr ⟨t3_6, ?_⟩
  refine List.forall_mem_cons.mpr ⟨t3_7, ?_⟩
  refine List.forall_mem_cons.mpr ⟨t3_8, ?_⟩
  refine List.forall_mem_cons.mpr ⟨t3_9, ?_⟩
  refine List.forall_mem_cons.mpr ⟨t3_10, ?_⟩
  refine List.forall_mem_cons.mpr ⟨t3_11, ?_⟩
  refine List.forall_mem_cons.mpr ⟨t3_12, ?_⟩
  refine List.forall_mem_cons.mpr ⟨t3_13, ?_⟩
  exact fun _ h => nomatch h
end Mine
end
section
open PySem PySem.W PyProof.Rows PySem.Calls
namespace Mine
set_option maxRecDepth 100000
set_option maxHeartbeats 8000000

/-- rows, names, chords -/
noncomputable abbrev LX := List Tx × List Int × List (Int × Int)
noncomputable def toLS (s : LX) : LS := ⟨s.1.map S, s.2.1, s.2.2⟩
noncomputable def stepX (s : LX) (n e : Nat) : LX := (grL s.1 e, s.2.1.take (e + 1) ++ ((n : Int) + 3) :: s.2.1.drop (e + 1), s.2.2 ++ [(s.2.1.getD e 0, s.2.1.getD (e + 1) 0)])
/-- the states that are reached -/
noncomputable def sts : Nat → List LX
  | 0 => [([[46], [46], [46]], [0, 1, 2], [])]
  | n + 1 => (sts n).flatMap fun s => (List.range (n + 2)).map (stepX s n)
noncomputable def tabN : Nat → List (List Tx)
  | 0 => tab0
  | 1 => tab1
  | 2 => tab2
  | _ => tab3
noncomputable def okN (n : Nat) (s : LX) (e : Nat) : Bool :=
  decide ((pick s.2.1 none (some ((e : Int) + 1)) none).length ≤ 100) && decide ((pick s.2.1 (some ((e : Int) + 1)) none none).length ≤ 100)
  && decide (pick s.2.1 none (some ((e : Int) + 1)) none ++ [(n : Int) + 3] ++ pick s.2.1 (some ((e : Int) + 1)) none none = (stepX s n e).2.1)
  && decide ((stepX s n e).2.1.length = n + 4) && decide ((grL s.1 e).length = n + 4)
noncomputable def okS (n : Nat) (s : LX) : Bool := decide (s.1 ∈ tabN n) && decide (s.2.1.length = n + 3) && decide (s.2.2.length = n) && (List.range (n + 2)).all (okN n s)
theorem sts0_ok : (sts 0).all (okS 0) = true := by decide +kernel
theorem sts1_ok : (sts 1).all (okS 1) = true := by decide +kernel
theorem sts2_ok : (sts 2).all (okS 2) = true := by decide +kernel
theorem sts3_ok : (sts 3).all (okS 3) = true := by decide +kernel
theorem sts_ok (n : Nat) (hn : n < 4) : (sts n).all (okS n) = true := by
  match n with
  | 0 => exact sts0_ok
  | 1 => exact sts1_ok
  | 2 => exact sts2_ok
  | 3 => exact sts3_ok
  | n + 4 => exact absurd hn (by omega)
theorem tabN_ok (n : Nat) (hn : n < 4) : ∀ rows ∈ tabN n, okAll n rows := by
  match n with
  | 0 => exact tab0_ok
  | 1 => exact tab1_ok
  | 2 => exact tab2_ok
  | 3 => exact tab3_ok
  | n + 4 => exact absurd hn (by omega)

noncomputable def GoodX (n : Nat) (t : LS) : Prop := ∃ s ∈ sts n, t = toLS s
theorem good0 : GoodX 0 ls0 := ⟨_, List.mem_singleton.mpr rfl, rfl⟩
theorem good_step (turn : Nat) (t : LS) (x : Int) (hn : turn < 4) (hG : GoodX turn t) (h0 : 0 ≤ x) (h1 : x < 720) : TurnF t turn x ∧ GoodX (turn + 1) (stepL t turn x) := by
  obtain ⟨s, hs, rfl⟩ := hG
  obtain ⟨n, rfl⟩ := Int.eq_ofNat_of_zero_le h0
  have hn7 : n < 720 := by omega
  have ok := List.all_eq_true.mp (sts_ok turn hn) s hs
  simp only [okS, Bool.and_eq_true, decide_eq_true_eq] at ok
  obtain ⟨⟨⟨k1, k2⟩, k3⟩, k4⟩ := ok
  have he : Int.fmod (n : Int) ((turn : Int) + 2) = ((n % (turn + 2) : Nat) : Int) := fm n (turn + 2)
  have hlt : n % (turn + 2) < turn + 2 := Nat.mod_lt _ (by omega)
  generalize n % (turn + 2) = e at *
  have hE := tabN_ok turn hn s.1 k1 e hlt
  simp only [okE, Bool.and_eq_true] at hE
  have hT := List.all_eq_true.mp hE.2 (n / 60) (List.mem_range.mpr (by omega))
  obtain ⟨g1, g2⟩ := grF hE.1 hT hn7
  have k5 := List.all_eq_true.mp k4 e (List.mem_range.mpr hlt)
  simp only [okN, Bool.and_eq_true, decide_eq_true_eq] at k5
  obtain ⟨⟨⟨⟨p1, p2⟩, p3⟩, p4⟩, p5⟩ := k5
  have hst : stepL (toLS s) turn (n : Int) = toLS (stepX s turn e) := by
    unfold stepL
    dsimp only
    rw [he]
    show (⟨grownP (s.1.map S) (e : Int) (n : Int), pick s.2.1 none (some ((e : Int) + 1)) none ++ [(turn : Int) + 3] ++ pick s.2.1 (some ((e : Int) + 1)) none none, s.2.2 ++ [(s.2.1.getD (e : Int).toNat 0, s.2.1.getD ((e : Int) + 1).toNat 0)]⟩ : LS) = _
    rw [g2, p3, Int.toNat_natCast, show ((e : Int) + 1).toNat = e + 1 by omega]
    rfl
  refine ⟨?_, ⟨stepX s turn e, List.mem_flatMap.mpr ⟨s, hs, List.mem_map.mpr ⟨e, List.mem_range.mpr hlt, rfl⟩⟩, hst⟩⟩
  exact {
    gr := by rw [he]; exact g1
    nl := k2
    n1 := by rw [he]; exact p1
    n2 := by rw [he]; exact p2
    cl := k3
    gl := by
      rw [he]
      show (grownP (s.1.map S) (e : Int) (n : Int)).length = _
      rw [g2, List.length_map]; exact p5
    nn := by rw [hst]; exact p4 }
end Mine
end
section
open PySem PySem.W PyProof.Rows PySem.Calls
namespace Mine
set_option maxRecDepth 100000
set_option maxHeartbeats 8000000

/-- what stands outside quotations ends outside an escape -/
theorem escOK_sq : ∀ (l : Tx) (q e : Bool), sqOK q e l = true → escOK (!q && e) (sq q e l) = true
  | [], q, e, h => by
    simp only [sqOK, Bool.and_eq_true, Bool.not_eq_true'] at h
    obtain ⟨rfl, rfl⟩ := h
    rfl
  | c :: r, true, true, h => by
    have := escOK_sq r true false h
    simpa [sq] using this
  | c :: r, false, true, h => by
    have := escOK_sq r false false h
    simpa [sq, escOK] using this
  | c :: r, q, false, h => by
    simp only [sqOK] at h
    by_cases h1 : (c == 92) = true
    · rw [if_pos h1] at h
      have := escOK_sq r q true h
      cases q
      · simpa [sq, h1, escOK] using this
      · simpa [sq, h1] using this
    · rw [if_neg h1] at h
      by_cases h2 : (c == 34) = true
      · rw [if_pos h2] at h
        have := escOK_sq r (!q) false h
        simp only [sq, h1, h2, Bool.and_false] at this ⊢
        simpa using this
      · rw [if_neg h2] at h
        have := escOK_sq r q false h
        rw [Bool.not_eq_true] at h1 h2
        cases q
        · simpa [sq, h1, h2, escOK] using this
        · simpa [sq, h1, h2] using this

/-- the brackets' count, by signs -/
noncomputable def chL : Bool → Tx → Int → Option Int
  | _, [], o => some o
  | true, _ :: r, o => chL false r o
  | false, c :: r, o => if c == 92 then chL true r o else if c == 40 then chL false r (o + 1) else if c == 41 then (if o - 1 < 0 then none else chL false r (o - 1)) else chL false r o
theorem str1 (c d : Nat) : ((⟨#[c]⟩ : Str) == ⟨#[d]⟩) = (c == d) := by
  by_cases h : c = d
  · subst h; simp
  · have h1 : (c == d) = false := beq_eq_false_iff_ne.mpr h
    rw [h1]
    refine beq_eq_false_iff_ne.mpr fun e => h ?_
    simpa using congrArg (fun s : Str => s.cps) e
theorem str2 (b c d : Nat) : ((⟨#[b, c]⟩ : Str) == ⟨#[d]⟩) = false := beq_eq_false_iff_ne.mpr fun e => by
  have := congrArg (fun s : Str => s.cps.size) e
  simp at this
theorem ch_L : ∀ (l : Tx) (k : Nat) (e : Bool) (o : Int), escOK e l = true → chRun (escGo k e l) o = chL e l o
  | [], k, e, o, h => by
    have : e = false := by simpa [escOK] using h
    subst this; rfl
  | c :: r, k, true, o, h => by
    have ih := ch_L r (k + 1) false o h
    simp only [escGo, chRun, chL, str2, Bool.false_eq_true, if_false]
    exact ih
  | c :: r, k, false, o, h => by
    simp only [escOK] at h
    by_cases h1 : (c == 92) = true
    · rw [h1] at h
      have ih := ch_L r (k + 1) true o h
      simp only [escGo, chL, h1, if_true]
      exact ih
    · rw [Bool.not_eq_true] at h1
      rw [h1] at h
      have ih := fun o => ch_L r (k + 1) false o h
      simp only [escGo, chL, h1, Bool.false_eq_true, if_false, chRun, str1, ih]
/-- whether the brackets of a text fit, by signs -/
noncomputable def okL (l : Tx) : Bool := match chL false (sq false false l) 0 with
  | some o => o == 0
  | none => false
theorem chkP_L {x : Str} (h : sqOK false false x.cps.toList = true) : chkP x = okL x.cps.toList := by
  unfold chkP okL
  rw [stripP_sq h]
  show (match chRun (escGo 0 false (sq false false x.cps.toList)) 0 with | some o => o == 0 | none => false) = _
  rw [ch_L _ _ _ _ (by simpa using escOK_sq _ _ _ h)]
theorem ckF_L {x : Str} (h : sqOK false false x.cps.toList = true) (hl : x.cps.toList.length ≤ 1000) : CkF x where
  hx := by rw [len_cps]; exact hl
  hok := escOK_of_sqOK _ _ _ h
  hJ := join_ok (by rw [stRes_flt h]; exact Nat.le_trans (sq_len _ _ _) hl)
  hok2 := by rw [stripP_sq h]; simpa using escOK_sq _ _ _ h
end Mine
end
section
open PySem PySem.W PyProof.Rows PySem.Calls
namespace Mine
set_option maxRecDepth 100000
set_option maxHeartbeats 8000000

noncomputable def rest (r : Tx) : Tx := r.dropWhile (· == 46)
noncomputable abbrev Sg := List (Nat × Nat)
noncomputable def signsL (rows : List Tx) : Sg := (List.range rows.length).flatMap fun k => (rest (rows.getD k [])).map fun c => (k, c)
noncomputable def sgS (p : Nat × Nat) : Int × Str := ((p.1 : Int), ⟨#[p.2]⟩)
theorem signs_L {rows : List Tx} (h : ∀ r ∈ rows, Txt.lstripChars (S r) ⟨#[46]⟩ = S (rest r)) : signsP (rows.map S) = (signsL rows).map sgS := by
  unfold signsP signsL
  rw [List.length_map, List.map_flatMap]
  have key : ∀ ks : List Nat, (∀ k ∈ ks, k < rows.length) → (ks.flatMap fun (k : Nat) => sgRow (rows.map S) (k : Int)) = ks.flatMap fun k => ((rest (rows.getD k [])).map fun c => (k, c)).map sgS := by
    intro ks
    induction ks with
    | nil => intro _; rfl
    | cons k ks ih =>
      intro hk
      have hk0 := hk k List.mem_cons_self
      rw [List.flatMap_cons, List.flatMap_cons, ih fun j hj => hk j (List.mem_cons_of_mem _ hj)]
      congr 1
      have e1 : (rows.map S).getD ((k : Int).toNat) ⟨#[]⟩ = S (rows.getD k []) := by simp [hk0]
      have e2 : rows.getD k [] ∈ rows := by
        have : rows.getD k [] = rows[k] := by simp [hk0]
        rw [this]; exact List.getElem_mem hk0
      unfold sgRow
      rw [e1, h _ e2, S_cps, List.map_map]
      rfl
  exact key _ fun k hk => List.mem_range.mp hk

noncomputable def ridL : List Tx := [[], [34, 40, 34], [92, 41, 92, 34], [34, 41, 34]]
theorem rid_S : ridP = ridL.map S := rfl
noncomputable def sgn (g : Sg) (q : Nat) : Nat := (g.getD q (0, 0)).2
noncomputable def row (g : Sg) (q : Nat) : Nat := (g.getD q (0, 0)).1
noncomputable def pieceL (g : Sg) (p : Nat) : Tx := sgn g p :: ridL.getD (p % 4) []
theorem sg_getD {g : Sg} {p : Nat} (hp : p < g.length) : (g.map sgS).getD p (0, ⟨#[]⟩) = ((row g p : Int), ⟨#[sgn g p]⟩) := by
  simp [hp, sgS, row, sgn]
theorem pieces_L (g : Sg) : piecesP (g.map sgS) = (List.range g.length).map fun p => S (pieceL g p) := by
  unfold piecesP
  rw [List.length_map]
  refine List.map_congr_left fun p hp => ?_
  have hp := List.mem_range.mp hp
  rw [sg_getD hp]
  apply str_ext
  have e : ((p : Int).fmod 4).toNat = p % 4 := congrArg Int.toNat (fm p 4)
  rw [e, app_cps, rid_S, getD_S]
  rfl
theorem flt_S (f : Nat → Tx) (ps : List Nat) : flt (ps.map fun p => S (f p)) = ps.flatMap f := by
  unfold flt
  rw [List.map_map, List.flatMap_def]
  rfl

noncomputable def segL (g : Sg) (p q : Nat) : Tx := (List.range' p (q + 1 - p)).flatMap (pieceL g)
noncomputable def pkOK (n : Nat) : Bool := decide (pick (List.range n) none none (some (-1)) = (List.range n).reverse) && (List.range n).all fun q => (List.range q).all fun p => decide (pick (List.range n) (some (p : Int)) (some ((q : Int) + 1)) none = List.range' p (q + 1 - p))
theorem pk6 : pkOK 6 = true := by decide +kernel
theorem pk8 : pkOK 8 = true := by decide +kernel
theorem pk_seg {n p q : Nat} (h : pkOK n = true) (h1 : p < q) (h2 : q < n) : pick (List.range n) (some (p : Int)) (some ((q : Int) + 1)) none = List.range' p (q + 1 - p) := by
  simp only [pkOK, Bool.and_eq_true] at h
  have := List.all_eq_true.mp (List.all_eq_true.mp h.2 q (List.mem_range.mpr h2)) p (List.mem_range.mpr h1)
  exact of_decide_eq_true this
theorem pk_rev {n : Nat} (h : pkOK n = true) : pick (List.range n) none none (some (-1)) = (List.range n).reverse := by
  simp only [pkOK, Bool.and_eq_true] at h
  exact of_decide_eq_true h.1

theorem rangeL_nat (a b : Nat) : rangeL (a : Int) (b : Int) = (List.range' a (b - a)).map fun (q : Nat) => PV.int (q : Int) := by
  unfold rangeL
  rw [List.range'_eq_map_range, List.map_map, show ((b : Int) - (a : Int)).toNat = b - a by omega]
  refine List.map_congr_left fun i _ => ?_
  simp

/-- whether q is p's mate -/
noncomputable def test (g : Sg) (p q : Nat) : Bool := sgn g q == 41 && okL (segL g p q)
noncomputable def matesG (g : Sg) : List (Int × Int) := (List.range g.length).flatMap fun p => if sgn g p == 40 then (match (List.range' (p + 1) (g.length - (p + 1))).find? (test g p) with | some q => [((row g p : Int), (row g q : Int))] | none => []) else []

structure Seg (g : Sg) : Prop where
  pk : pkOK g.length = true
  le : g.length ≤ 8
  sq : ∀ p q, p < q → q < g.length → sgn g q = 41 → sqOK false false (segL g p q) = true

section
variable {rows : List Tx} {g : Sg} (hg : signsP (rows.map S) = g.map sgS) (H : Seg g)
include hg
theorem sgAt_L {q : Nat} (hq : q < g.length) : sgAt (rows.map S) (q : Int) = ((row g q : Int), ⟨#[sgn g q]⟩) := by
  unfold sgAt
  rw [hg, Int.toNat_natCast, sg_getD hq]
include H
theorem pick_seg {p q : Nat} (h1 : p < q) (h2 : q < g.length) : pick (piecesP (signsP (rows.map S))) (some (p : Int)) (some ((q : Int) + 1)) none = (List.range' p (q + 1 - p)).map fun p => S (pieceL g p) := by
  rw [hg, pieces_L, pick_map, pk_seg H.pk h1 h2]
theorem seg_L {p q : Nat} (h1 : p < q) (h2 : q < g.length) : (segP (rows.map S) (p : Int) (q : Int)).cps.toList = segL g p q := by
  unfold segP
  rw [pick_seg hg H h1 h2, glued_flat, flt_S]; rfl
theorem test_L {p q : Nat} (h1 : p < q) (h2 : q < g.length) : ((sgAt (rows.map S) (q : Int)).2 == ⟨#[41]⟩ && chkP (segP (rows.map S) (p : Int) (q : Int))) = test g p q := by
  rw [sgAt_L hg h2]
  simp only [str1, test]
  cases hs : sgn g q == 41
  · rfl
  · have := H.sq p q h1 h2 (by simpa using hs)
    rw [chkP_L (by rw [seg_L hg H h1 h2]; exact this), seg_L hg H h1 h2]
theorem in_L {p : Nat} (hp : p < g.length) : ∀ (ds : List Nat) (t : MT), (∀ q ∈ ds, p < q ∧ q < g.length) → (inRun (rows.map S) (p : Int) (ds.map fun (q : Nat) => PV.int (q : Int)) t).ms = t.ms ++ (match ds.find? (test g p) with | some q => [((row g p : Int), (row g q : Int))] | none => [])
  | [], t, _ => by simp [inRun]
  | q :: ds, t, h => by
    obtain ⟨h1, h2⟩ := h q List.mem_cons_self
    have ih := fun t => in_L hp ds t fun q hq => h q (List.mem_cons_of_mem _ hq)
    rw [List.map_cons, List.find?_cons]
    simp only [inRun, inStep, test_L hg H h1 h2]
    cases ht : test g p q
    · simp only [Bool.false_eq_true, if_false]
      rw [ih]
    · simp only [if_true]
      rw [sgAt_L hg hp, sgAt_L hg h2]
theorem out_L {p : Nat} (hp : p < g.length) (t : MT) : (outSt (rows.map S) t (.int (p : Int))).ms = t.ms ++ (if sgn g p == 40 then (match (List.range' (p + 1) (g.length - (p + 1))).find? (test g p) with | some q => [((row g p : Int), (row g q : Int))] | none => []) else []) := by
  have hl : (signsP (rows.map S)).length = g.length := by rw [hg, List.length_map]
  simp only [outSt, sgAt_L hg hp, str1, hl]
  cases hs : sgn g p == 40
  · simp
  · simp only [if_true]
    have e : rangeL ((p : Int) + 1) (g.length : Int) = (List.range' (p + 1) (g.length - (p + 1))).map fun (q : Nat) => PV.int (q : Int) := rangeL_nat (p + 1) g.length
    rw [e]
    rw [in_L hg H hp _ _ fun q hq => by
      have := List.mem_range'_1.mp hq
      omega]
theorem mt_L : (mtEnd (rows.map S)).ms = matesG g := by
  have hl : (signsP (rows.map S)).length = g.length := by rw [hg, List.length_map]
  unfold mtEnd matesG
  rw [hl]
  have e : rangeL 0 (g.length : Int) = (List.range g.length).map fun (q : Nat) => PV.int (q : Int) := by
    have := rangeL_nat 0 g.length
    rw [Nat.sub_zero, ← List.range_eq_range'] at this
    exact this
  rw [e]
  have key : ∀ (ps : List Nat) (t : MT), (∀ p ∈ ps, p < g.length) → ((ps.map fun (q : Nat) => PV.int (q : Int)).foldl (outSt (rows.map S)) t).ms = t.ms ++ ps.flatMap fun p => if sgn g p == 40 then (match (List.range' (p + 1) (g.length - (p + 1))).find? (test g p) with | some q => [((row g p : Int), (row g q : Int))] | none => []) else [] := by
    intro ps
    induction ps with
    | nil => intro t _; simp
    | cons p ps ih =>
      intro t h
      rw [List.map_cons, List.foldl_cons, ih _ fun q hq => h q (List.mem_cons_of_mem _ hq), out_L hg H (h p List.mem_cons_self), List.flatMap_cons, List.append_assoc]
  rw [key _ _ fun p hp => List.mem_range.mp hp]
  rfl
end
end Mine
end
section
open PySem PySem.W PyProof.Rows PySem.Calls
namespace Mine
set_option maxRecDepth 100000
set_option maxHeartbeats 8000000

/-- some parameters: the table of tokens asks for none -/
noncomputable def P0 : Params := { strHash := fun _ => 0, shareClass := fun _ => 0, mergeTok := fun t => t, idOf := fun _ => 0, idOfShared := fun _ _ => 0, followText := fun _ => false, idOfImm := fun _ => 0 }
theorem esT_same (P : Params) : (esT P).1.1.toList.map (fun e => (e.key, e.val)) = (esT P0).1.1.toList.map (fun e => (e.key, e.val)) := by
  show [_, _, _, _, _, _, _, _, _, _, _, _, _, _, _, _, _, _, _, _, _, _, _, _, _, _, _, _, _, _, _, _, _, _, _, _, _, _, _, _, _, _, _, _, _, _, _, _] = [_, _, _, _, _, _, _, _, _, _, _, _, _, _, _, _, _, _, _, _, _, _, _, _, _, _, _, _, _, _, _, _, _, _, _, _, _, _, _, _, _, _, _, _, _, _, _, _]
  rfl
theorem findBy_kv {K : Type} (p : K → Value → Bool) (k : K) (a b : Array DictEntry) (h : a.toList.map (fun e => (e.key, e.val)) = b.toList.map (fun e => (e.key, e.val))) : findBy p a k = findBy p b k := by
  obtain ⟨a⟩ := a
  obtain ⟨b⟩ := b
  simp only [findBy, List.find?_toArray] at *
  induction a generalizing b with
  | nil =>
    cases b with
    | nil => rfl
    | cons y b => cases h
  | cons x a ih =>
    cases b with
    | nil => cases h
    | cons y b =>
      simp only [List.map_cons, List.cons.injEq, Prod.mk.injEq] at h
      rw [List.find?_cons, List.find?_cons, h.1.1]
      cases p k y.key
      · exact ih b h.2
      · simp only [Option.map_some, h.1.2]
theorem tokV_same (P : Params) : tokV P = tokV P0 := by
  funext x
  exact findBy_kv _ _ _ _ (esT_same P)
theorem szP_same (P : Params) : szP P = szP P0 := by
  funext r k
  unfold szP isT
  rw [tokV_same P]
theorem numP_same (P : Params) : numP P = numP P0 := by
  funext x
  unfold numP
  rw [tokV_same P]
theorem numI_same (P : Params) (r : Str) : ∀ i, numI P r i = numI P0 r i
  | 0 => rfl
  | i + 1 => by
    simp only [numI, ntS]
    rw [numI_same P r i, szP_same P, numP_same P]
theorem NumF.any {P : Params} {r : Str} {m : Nat} {want : List Int} (h : NumF P0 r m want) : NumF P r m want := by
  obtain ⟨a, b, c, d, e, f⟩ := h
  refine ⟨a, b, ?_, ?_, ?_, ?_⟩
  · intro i hi; rw [numI_same P]; exact c i hi
  · rw [numI_same P]; exact d
  · intro i hi; rw [numI_same P, szP_same P, tokV_same P]; exact e i hi
  · rw [numI_same P]; exact f

noncomputable def isIntV (v : Option Value) : Bool := match v with
  | none => true
  | some (.int _ _) => true
  | _ => false
theorem isIntV_ok {v : Option Value} (h : isIntV v = true) : v = none ∨ ∃ i t, v = some (.int i t) := by
  unfold isIntV at h
  split at h
  · exact .inl rfl
  · exact .inr ⟨_, _, rfl⟩
  · cases h
noncomputable def numOK (r : Str) (m : Nat) (want : List Int) : Bool :=
  decide (r.length ≤ 100) && decide (m ≤ 100) && (List.range m).all (fun i => decide ((numI P0 r i).k < r.length) && isIntV (tokV P0 (Txt.slice r (some (numI P0 r i).k) (some ((numI P0 r i).k + szP P0 r (numI P0 r i).k)))))
  && !decide ((numI P0 r m).k < r.length) && decide ((numI P0 r m).nums = want)
theorem numOK_ok {r : Str} {m : Nat} {want : List Int} (h : numOK r m want = true) : NumF P0 r m want := by
  simp only [numOK, Bool.and_eq_true, decide_eq_true_eq, Bool.not_eq_true', decide_eq_false_iff_not, List.all_eq_true, List.mem_range] at h
  obtain ⟨⟨⟨⟨h1, h2⟩, h3⟩, h4⟩, h5⟩ := h
  exact ⟨h1, h2, fun i hi => (h3 i hi).1, h4, fun i hi => isIntV_ok (h3 i hi).2, h5⟩

/-- a row's numbers, by its signs -/
noncomputable def wantR (r : Tx) : List Int := List.replicate (dotsIn r / 3) 52 ++ List.replicate (dotsIn r % 3) 23 ++ List.replicate (r.count 41) 8 ++ List.replicate (r.count 40) 7
noncomputable def rowOK (r : Tx) : Bool := decide (r.length ≤ 20) && decide (Txt.lstripChars (S r) ⟨#[46]⟩ = S (rest r)) && numOK (S r) (wantR r).length (wantR r)

noncomputable def allL (g : Sg) : Tx := (List.range g.length).flatMap (pieceL g)
noncomputable def revL (g : Sg) : Tx := (List.range g.length).reverse.flatMap (pieceL g)
noncomputable def srtOK (u due : List (Int × Int)) : Bool := decide (2 ≤ u.length) && decide (u.length < 64) && kasOK (ltOf u) u.length (kas_sort u.length) && decide ((permOf u).size = u.length) && decide ((permOf u).toList.map (fun i => u[i]?) = due.map some)
noncomputable def mtOK (g : Sg) (ms due : List (Int × Int)) : Bool :=
  decide (g.length = 6 ∨ g.length = 8) && sqOK false false (allL g) && okL (allL g) && sqOK false false (revL g) && !okL (revL g)
  && (List.range g.length).all (fun q => sgn g q != 41 || (List.range q).all fun p => sqOK false false (segL g p q)) && decide (matesG g = ms) && srtOK ms due

theorem pieceL_len (g : Sg) (p : Nat) : (pieceL g p).length ≤ 5 := by
  have := getD_lenL (l := ridL) (m := 4) (by decide) (p % 4)
  simp only [pieceL, List.length_cons]
  omega
theorem mtG_of {rows : List Tx} {ms due : List (Int × Int)} (h1 : rows.length ≤ 20) (h2 : ∀ r ∈ rows, r.length ≤ 20) (h3 : ∀ r ∈ rows, Txt.lstripChars (S r) ⟨#[46]⟩ = S (rest r)) (h : mtOK (signsL rows) ms due = true) : MtG (rows.map S) due := by
  have hg := signs_L h3
  generalize signsL rows = g at *
  simp only [mtOK, srtOK, Bool.and_eq_true, decide_eq_true_eq, Bool.not_eq_true', List.all_eq_true, List.mem_range, Bool.or_eq_true, bne_iff_ne] at h
  obtain ⟨⟨⟨⟨⟨⟨⟨k1, k2⟩, k3⟩, k4⟩, k5⟩, k6⟩, k7⟩, ⟨⟨⟨k8, k9⟩, k10⟩, k11⟩, k12⟩ := h
  have hpk : pkOK g.length = true := by
    rcases k1 with e | e
    · rw [e]; exact pk6
    · rw [e]; exact pk8
  have hle : g.length ≤ 8 := by omega
  have H : Seg g := ⟨hpk, hle, fun p q a b c => (k6 q b).resolve_left (fun n => n c) p a⟩
  have hms : (mtEnd (rows.map S)).ms = ms := (mt_L hg H).trans k7
  have hsl : (signsP (rows.map S)).length = g.length := by rw [hg, List.length_map]
  have f1 : flt (piecesP (signsP (rows.map S))) = allL g := by rw [hg, pieces_L, flt_S]; rfl
  have f2 : flt (pick (piecesP (signsP (rows.map S))) none none (some (-1))) = revL g := by rw [hg, pieces_L, pick_map, pk_rev hpk, flt_S]; rfl
  have e1 : (Txt.join ⟨#[]⟩ (piecesP (signsP (rows.map S)))).cps.toList = allL g := by rw [glued_flat, f1]
  have e2 : (Txt.join ⟨#[]⟩ (pick (piecesP (signsP (rows.map S))) none none (some (-1)))).cps.toList = revL g := by rw [glued_flat, f2]
  have l1 : (allL g).length ≤ 1000 := by
    have := flat_len (pieceL g) 5 (List.range g.length) fun p _ => pieceL_len g p
    rw [List.length_range] at this
    unfold allL; omega
  have l2 : (revL g).length ≤ 1000 := by
    have := flat_len (pieceL g) 5 (List.range g.length).reverse fun p _ => pieceL_len g p
    rw [List.length_reverse, List.length_range] at this
    unfold revL; omega
  exact {
    base := {
      hlen := by rw [List.length_map]; exact h1
      hrow := fun r hr => by
        obtain ⟨l, hl, rfl⟩ := List.mem_map.mp hr
        rw [S_len]; exact h2 l hl
      hsg := by rw [hsl]; omega
      hone := fun p hp => by
        rw [hg] at hp
        obtain ⟨x, _, rfl⟩ := List.mem_map.mp hp
        exact Nat.le_refl 1 }
    c1 := ckF_L (by rw [e1]; exact k2) (by rw [e1]; exact l1)
    j1 := join_ok (by rw [f1]; exact l1)
    v1 := by rw [chkP_L (by rw [e1]; exact k2), e1]; exact k3
    c2 := ckF_L (by rw [e2]; exact k4) (by rw [e2]; exact l2)
    j2 := join_ok (by rw [f2]; exact l2)
    v2 := by rw [chkP_L (by rw [e2]; exact k4), e2]; exact k5
    seg := fun p q a b c => by
      rw [hsl] at b
      have hs : sgn g q = 41 := by
        rw [sgAt_L hg b] at c
        simpa [str1] using c
      have hsq := H.sq p q a b hs
      have ll : (segL g p q).length ≤ 1000 := by
        have := flat_len (pieceL g) 5 (List.range' p (q + 1 - p)) fun p _ => pieceL_len g p
        rw [List.length_range'] at this
        unfold segL; omega
      have eq := seg_L hg H a b
      exact ⟨ckF_L (by rw [eq]; exact hsq) (by rw [eq]; exact ll), join_ok (by rw [pick_seg hg H a b, flt_S]; exact ll)⟩
    s2 := by rw [hms]; exact k8
    s64 := by rw [hms]; exact k9
    kok := by rw [hms]; exact k10
    kp := by rw [hms]; exact k11
    kout := by rw [hms]; exact k12 }
end Mine
end
section
open PySem PySem.W PyProof.Rows PySem.Calls
namespace Mine
set_option maxRecDepth 100000
set_option maxHeartbeats 8000000

noncomputable def rowTab : List Tx := [[46, 46, 46, 46, 40, 40, 40], [46], [46, 46, 41], [46, 46, 46, 40, 40], [46, 46, 40], [46, 46, 46, 41, 41], [46, 46, 46, 41, 40], [46, 46, 46, 46, 41, 41, 41], [46, 46, 46, 46, 41, 41, 40], [46, 46, 46, 46, 41, 40, 40], [46, 46, 46, 46, 46, 40, 40, 40, 40], [46, 46, 46, 46, 46, 41, 41, 41, 41], [46, 46, 46, 46, 46, 41, 41, 41, 40], [46, 46, 46, 46, 46, 41, 41, 40, 40], [46, 46, 46, 46, 46, 41, 40, 40, 40]]
theorem rowTab_ok : rowTab.all rowOK = true := by decide +kernel
noncomputable def fzOK (n : Nat) (due : List (Int × Int)) : Bool :=
  decide ((joinP n due).length ≤ 100) && (joinP n due).all (fun p => decide (0 ≤ p.2) && decide (p.2 ≤ 100)) && decide ((triP n (joinP n due)).length ≤ 100)
  && (List.range n).all fun i => (List.range (n - 1 - i)).all fun m => frOK n (joinP n due) (dotsP n due) (triP n (joinP n due)) i m
/-- rows, the mates as found, the chords sorted -/
noncomputable abbrev Sh := List Tx × List (Int × Int) × List (Int × Int)
noncomputable def shOK (s : Sh) : Bool := decide (1 ≤ s.1.length) && decide (s.1.length ≤ 7) && s.1.all (fun r => decide (r ∈ rowTab)) && (List.range s.1.length).all (fun k => decide (wantP s.2.2 (k : Int) = wantR (s.1.getD k [])))
  && mtOK (signsL s.1) s.2.1 s.2.2 && fzOK s.1.length s.2.2 && decide (s.2.2.length ≤ 100)
noncomputable def stOK (tab : List Sh) (s : LX) : Bool := decide (s.1.length = s.2.1.length) && s.2.2.all (fun p => decide (p.1 ∈ s.2.1) && decide (p.2 ∈ s.2.1)) && tab.any fun sh => decide (sh.1 = s.1) && srtOK (dueU (toLS s)) sh.2.2
theorem sh3_0 : shOK ([[46, 46, 46, 46, 40, 40, 40], [46], [46, 46, 41], [46, 46, 41], [46, 46, 41], [46]], [(0, 4), (0, 3), (0, 2)], [(0, 2), (0, 3), (0, 4)]) = true := by decide +kernel
theorem sh3_1 : shOK ([[46, 46, 46, 40, 40], [46, 46, 40], [46], [46, 46, 46, 41, 41], [46, 46, 41], [46]], [(0, 4), (0, 3), (1, 3)], [(0, 3), (0, 4), (1, 3)]) = true := by decide +kernel
theorem sh3_2 : shOK ([[46, 46, 46, 40, 40], [46], [46, 46, 46, 41, 40], [46], [46, 46, 46, 41, 41], [46]], [(0, 4), (0, 2), (2, 4)], [(0, 2), (0, 4), (2, 4)]) = true := by decide +kernel
theorem sh3_3 : shOK ([[46, 46, 46, 40, 40], [46], [46, 46, 41], [46, 46, 46, 41, 40], [46], [46, 46, 41]], [(0, 3), (0, 2), (3, 5)], [(0, 2), (0, 3), (3, 5)]) = true := by decide +kernel
theorem sh3_4 : shOK ([[46, 46, 40], [46, 46, 46, 40, 40], [46], [46, 46, 41], [46, 46, 46, 41, 41], [46]], [(0, 4), (1, 4), (1, 3)], [(0, 4), (1, 3), (1, 4)]) = true := by decide +kernel
theorem sh3_5 : shOK ([[46, 46, 40], [46, 46, 40], [46, 46, 40], [46], [46, 46, 46, 46, 41, 41, 41], [46]], [(0, 4), (1, 4), (2, 4)], [(0, 4), (1, 4), (2, 4)]) = true := by decide +kernel
theorem sh3_6 : shOK ([[46, 46, 40], [46, 46, 40], [46], [46, 46, 46, 46, 41, 41, 40], [46], [46, 46, 41]], [(0, 3), (1, 3), (3, 5)], [(0, 3), (1, 3), (3, 5)]) = true := by decide +kernel
theorem sh3_7 : shOK ([[46, 46, 40], [46], [46, 46, 46, 46, 41, 40, 40], [46], [46, 46, 41], [46, 46, 41]], [(0, 2), (2, 5), (2, 4)], [(0, 2), (2, 4), (2, 5)]) = true := by decide +kernel
theorem sh3_8 : shOK ([[46, 46, 40], [46], [46, 46, 46, 41, 40], [46, 46, 40], [46], [46, 46, 46, 41, 41]], [(0, 2), (2, 5), (3, 5)], [(0, 2), (2, 5), (3, 5)]) = true := by decide +kernel
theorem sh3_9 : shOK ([[46], [46, 46, 46, 46, 40, 40, 40], [46], [46, 46, 41], [46, 46, 41], [46, 46, 41]], [(1, 5), (1, 4), (1, 3)], [(1, 3), (1, 4), (1, 5)]) = true := by decide +kernel
theorem sh3_10 : shOK ([[46], [46, 46, 46, 40, 40], [46, 46, 40], [46], [46, 46, 46, 41, 41], [46, 46, 41]], [(1, 5), (1, 4), (2, 4)], [(1, 4), (1, 5), (2, 4)]) = true := by decide +kernel
theorem sh3_11 : shOK ([[46], [46, 46, 46, 40, 40], [46], [46, 46, 46, 41, 40], [46], [46, 46, 46, 41, 41]], [(1, 5), (1, 3), (3, 5)], [(1, 3), (1, 5), (3, 5)]) = true := by decide +kernel
theorem sh3_12 : shOK ([[46], [46, 46, 40], [46, 46, 46, 40, 40], [46], [46, 46, 41], [46, 46, 46, 41, 41]], [(1, 5), (2, 5), (2, 4)], [(1, 5), (2, 4), (2, 5)]) = true := by decide +kernel
theorem sh3_13 : shOK ([[46], [46, 46, 40], [46, 46, 40], [46, 46, 40], [46], [46, 46, 46, 46, 41, 41, 41]], [(1, 5), (2, 5), (3, 5)], [(1, 5), (2, 5), (3, 5)]) = true := by decide +kernel
noncomputable def fin3 : List Sh := [([[46, 46, 46, 46, 40, 40, 40], [46], [46, 46, 41], [46, 46, 41], [46, 46, 41], [46]], [(0, 4), (0, 3), (0, 2)], [(0, 2), (0, 3), (0, 4)]),
  ([[46, 46, 46, 40, 40], [46, 46, 40], [46], [46, 46, 46, 41, 41], [46, 46, 41], [46]], [(0, 4), (0, 3), (1, 3)], [(0, 3), (0, 4), (1, 3)]),
  ([[46, 46, 46, 40, 40], [46], [46, 46, 46, 41, 40], [46], [46, 46, 46, 41, 41], [46]], [(0, 4), (0, 2), (2, 4)], [(0, 2), (0, 4), (2, 4)]),
  ([[46, 46, 46, 40, 40], [46], [46, 46, 41], [46, 46, 46, 41, 40], [46], [46, 46, 41]], [(0, 3), (0, 2), (3, 5)], [(0, 2), (0, 3), (3, 5)]),
  ([[46, 46, 40], [46, 46, 46, 40, 40], [46], [46, 46, 41], [46, 46, 46, 41, 41], [46]], [(0, 4), (1, 4), (1, 3)], [(0, 4), (1, 3), (1, 4)]),
  ([[46, 46, 40], [46, 46, 40], [46, 46, 40], [46], [46, 46, 46, 46, 41, 41, 41], [46]], [(0, 4), (1, 4), (2, 4)], [(0, 4), (1, 4), (2, 4)]),
  ([[46, 46, 40], [46, 46, 40], [46], [46, 46, 46, 46, 41, 41, 40], [46], [46, 46, 41]], [(0, 3), (1, 3), (3, 5)], [(0, 3), (1, 3), (3, 5)]),
  ([[46, 46, 40], [46], [46, 46, 46, 46, 41, 40, 40], [46], [46, 46, 41], [46, 46, 41]], [(0, 2), (2, 5), (2, 4)], [(0, 2), (2, 4), (2, 5)]),
  ([[46, 46, 40], [46], [46, 46, 46, 41, 40], [46, 46, 40], [46], [46, 46, 46, 41, 41]], [(0, 2), (2, 5), (3, 5)], [(0, 2), (2, 5), (3, 5)]),
  ([[46], [46, 46, 46, 46, 40, 40, 40], [46], [46, 46, 41], [46, 46, 41], [46, 46, 41]], [(1, 5), (1, 4), (1, 3)], [(1, 3), (1, 4), (1, 5)]),
  ([[46], [46, 46, 46, 40, 40], [46, 46, 40], [46], [46, 46, 46, 41, 41], [46, 46, 41]], [(1, 5), (1, 4), (2, 4)], [(1, 4), (1, 5), (2, 4)]),
  ([[46], [46, 46, 46, 40, 40], [46], [46, 46, 46, 41, 40], [46], [46, 46, 46, 41, 41]], [(1, 5), (1, 3), (3, 5)], [(1, 3), (1, 5), (3, 5)]),
  ([[46], [46, 46, 40], [46, 46, 46, 40, 40], [46], [46, 46, 41], [46, 46, 46, 41, 41]], [(1, 5), (2, 5), (2, 4)], [(1, 5), (2, 4), (2, 5)]),
  ([[46], [46, 46, 40], [46, 46, 40], [46, 46, 40], [46], [46, 46, 46, 46, 41, 41, 41]], [(1, 5), (2, 5), (3, 5)], [(1, 5), (2, 5), (3, 5)])]
theorem fin3_ok : ∀ s ∈ fin3, shOK s = true := by
  show ∀ s ∈ [_, _, _, _, _, _, _, _, _, _, _, _, _, _], _
  refine List.forall_mem_cons.mpr ⟨sh3_0, ?_⟩
  refine List.forall_mem_cons.mpr ⟨sh3_1, ?_⟩
  refine List.forall_mem_cons.mpr ⟨sh3_2, ?_⟩
  refine List.forall_mem_cons.mpr ⟨sh3_3, ?_⟩
  refine List.forall_mem_cons.mpr ⟨sh3_4, ?_⟩
  refine List.forall_mem_cons.mpr ⟨sh3_5, ?_⟩
  refine List.forall_mem_cons.mpr ⟨sh3_6, ?_⟩
  refine List.forall_mem_cons.mpr ⟨sh3_7, ?_⟩
  refine List.forall_mem_cons.mpr ⟨sh3_8, ?_⟩
  refine List.forall_mem_cons.mpr ⟨sh3_9, ?_⟩
  refine List.forall_mem_cons.mpr ⟨sh3_10, ?_⟩
  refine List.forall_mem_cons.mpr ⟨sh3_11, ?_⟩
  refine List.forall_mem_cons.mpr ⟨sh3_12, ?_⟩
  refine List.forall_mem_cons.mpr ⟨sh3_13, ?_⟩
  exact fun _ h => nomatch h
theorem sh4_0 : shOK ([[46, 46, 46, 46, 46, 40, 40, 40, 40], [46], [46, 46, 41], [46, 46, 41], [46, 46, 41], [46, 46, 41], [46]], [(0, 5), (0, 4), (0, 3), (0, 2)], [(0, 2), (0, 3), (0, 4), (0, 5)]) = true := by decide +kernel
theorem sh4_1 : shOK ([[46, 46, 46, 46, 40, 40, 40], [46, 46, 40], [46], [46, 46, 46, 41, 41], [46, 46, 41], [46, 46, 41], [46]], [(0, 5), (0, 4), (0, 3), (1, 3)], [(0, 3), (0, 4), (0, 5), (1, 3)]) = true := by decide +kernel
theorem sh4_2 : shOK ([[46, 46, 46, 46, 40, 40, 40], [46], [46, 46, 46, 41, 40], [46], [46, 46, 46, 41, 41], [46, 46, 41], [46]], [(0, 5), (0, 4), (0, 2), (2, 4)], [(0, 2), (0, 4), (0, 5), (2, 4)]) = true := by decide +kernel
theorem sh4_3 : shOK ([[46, 46, 46, 46, 40, 40, 40], [46], [46, 46, 41], [46, 46, 46, 41, 40], [46], [46, 46, 46, 41, 41], [46]], [(0, 5), (0, 3), (0, 2), (3, 5)], [(0, 2), (0, 3), (0, 5), (3, 5)]) = true := by decide +kernel
theorem sh4_4 : shOK ([[46, 46, 46, 46, 40, 40, 40], [46], [46, 46, 41], [46, 46, 41], [46, 46, 46, 41, 40], [46], [46, 46, 41]], [(0, 4), (0, 3), (0, 2), (4, 6)], [(0, 2), (0, 3), (0, 4), (4, 6)]) = true := by decide +kernel
theorem sh4_5 : shOK ([[46, 46, 46, 40, 40], [46, 46, 46, 40, 40], [46], [46, 46, 41], [46, 46, 46, 41, 41], [46, 46, 41], [46]], [(0, 5), (0, 4), (1, 4), (1, 3)], [(0, 4), (0, 5), (1, 3), (1, 4)]) = true := by decide +kernel
theorem sh4_6 : shOK ([[46, 46, 46, 40, 40], [46, 46, 40], [46, 46, 40], [46], [46, 46, 46, 46, 41, 41, 41], [46, 46, 41], [46]], [(0, 5), (0, 4), (1, 4), (2, 4)], [(0, 4), (0, 5), (1, 4), (2, 4)]) = true := by decide +kernel
theorem sh4_7 : shOK ([[46, 46, 46, 40, 40], [46, 46, 40], [46], [46, 46, 46, 46, 41, 41, 40], [46], [46, 46, 46, 41, 41], [46]], [(0, 5), (0, 3), (1, 3), (3, 5)], [(0, 3), (0, 5), (1, 3), (3, 5)]) = true := by decide +kernel
theorem sh4_8 : shOK ([[46, 46, 46, 40, 40], [46, 46, 40], [46], [46, 46, 46, 41, 41], [46, 46, 46, 41, 40], [46], [46, 46, 41]], [(0, 4), (0, 3), (1, 3), (4, 6)], [(0, 3), (0, 4), (1, 3), (4, 6)]) = true := by decide +kernel
theorem sh4_9 : shOK ([[46, 46, 46, 40, 40], [46], [46, 46, 46, 46, 41, 40, 40], [46], [46, 46, 41], [46, 46, 46, 41, 41], [46]], [(0, 5), (0, 2), (2, 5), (2, 4)], [(0, 2), (0, 5), (2, 4), (2, 5)]) = true := by decide +kernel
theorem sh4_10 : shOK ([[46, 46, 46, 40, 40], [46], [46, 46, 46, 41, 40], [46, 46, 40], [46], [46, 46, 46, 46, 41, 41, 41], [46]], [(0, 5), (0, 2), (2, 5), (3, 5)], [(0, 2), (0, 5), (2, 5), (3, 5)]) = true := by decide +kernel
theorem sh4_11 : shOK ([[46, 46, 46, 40, 40], [46], [46, 46, 46, 41, 40], [46], [46, 46, 46, 46, 41, 41, 40], [46], [46, 46, 41]], [(0, 4), (0, 2), (2, 4), (4, 6)], [(0, 2), (0, 4), (2, 4), (4, 6)]) = true := by decide +kernel
theorem sh4_12 : shOK ([[46, 46, 46, 40, 40], [46], [46, 46, 41], [46, 46, 46, 46, 41, 40, 40], [46], [46, 46, 41], [46, 46, 41]], [(0, 3), (0, 2), (3, 6), (3, 5)], [(0, 2), (0, 3), (3, 5), (3, 6)]) = true := by decide +kernel
theorem sh4_13 : shOK ([[46, 46, 46, 40, 40], [46], [46, 46, 41], [46, 46, 46, 41, 40], [46, 46, 40], [46], [46, 46, 46, 41, 41]], [(0, 3), (0, 2), (3, 6), (4, 6)], [(0, 2), (0, 3), (3, 6), (4, 6)]) = true := by decide +kernel
theorem sh4_14 : shOK ([[46, 46, 40], [46, 46, 46, 46, 40, 40, 40], [46], [46, 46, 41], [46, 46, 41], [46, 46, 46, 41, 41], [46]], [(0, 5), (1, 5), (1, 4), (1, 3)], [(0, 5), (1, 3), (1, 4), (1, 5)]) = true := by decide +kernel
theorem sh4_15 : shOK ([[46, 46, 40], [46, 46, 46, 40, 40], [46, 46, 40], [46], [46, 46, 46, 41, 41], [46, 46, 46, 41, 41], [46]], [(0, 5), (1, 5), (1, 4), (2, 4)], [(0, 5), (1, 4), (1, 5), (2, 4)]) = true := by decide +kernel
theorem sh4_16 : shOK ([[46, 46, 40], [46, 46, 46, 40, 40], [46], [46, 46, 46, 41, 40], [46], [46, 46, 46, 46, 41, 41, 41], [46]], [(0, 5), (1, 5), (1, 3), (3, 5)], [(0, 5), (1, 3), (1, 5), (3, 5)]) = true := by decide +kernel
theorem sh4_17 : shOK ([[46, 46, 40], [46, 46, 46, 40, 40], [46], [46, 46, 41], [46, 46, 46, 46, 41, 41, 40], [46], [46, 46, 41]], [(0, 4), (1, 4), (1, 3), (4, 6)], [(0, 4), (1, 3), (1, 4), (4, 6)]) = true := by decide +kernel
theorem sh4_18 : shOK ([[46, 46, 40], [46, 46, 40], [46, 46, 46, 40, 40], [46], [46, 46, 41], [46, 46, 46, 46, 41, 41, 41], [46]], [(0, 5), (1, 5), (2, 5), (2, 4)], [(0, 5), (1, 5), (2, 4), (2, 5)]) = true := by decide +kernel
theorem sh4_19 : shOK ([[46, 46, 40], [46, 46, 40], [46, 46, 40], [46, 46, 40], [46], [46, 46, 46, 46, 46, 41, 41, 41, 41], [46]], [(0, 5), (1, 5), (2, 5), (3, 5)], [(0, 5), (1, 5), (2, 5), (3, 5)]) = true := by decide +kernel
theorem sh4_20 : shOK ([[46, 46, 40], [46, 46, 40], [46, 46, 40], [46], [46, 46, 46, 46, 46, 41, 41, 41, 40], [46], [46, 46, 41]], [(0, 4), (1, 4), (2, 4), (4, 6)], [(0, 4), (1, 4), (2, 4), (4, 6)]) = true := by decide +kernel
theorem sh4_21 : shOK ([[46, 46, 40], [46, 46, 40], [46], [46, 46, 46, 46, 46, 41, 41, 40, 40], [46], [46, 46, 41], [46, 46, 41]], [(0, 3), (1, 3), (3, 6), (3, 5)], [(0, 3), (1, 3), (3, 5), (3, 6)]) = true := by decide +kernel
theorem sh4_22 : shOK ([[46, 46, 40], [46, 46, 40], [46], [46, 46, 46, 46, 41, 41, 40], [46, 46, 40], [46], [46, 46, 46, 41, 41]], [(0, 3), (1, 3), (3, 6), (4, 6)], [(0, 3), (1, 3), (3, 6), (4, 6)]) = true := by decide +kernel
theorem sh4_23 : shOK ([[46, 46, 40], [46], [46, 46, 46, 46, 46, 41, 40, 40, 40], [46], [46, 46, 41], [46, 46, 41], [46, 46, 41]], [(0, 2), (2, 6), (2, 5), (2, 4)], [(0, 2), (2, 4), (2, 5), (2, 6)]) = true := by decide +kernel
theorem sh4_24 : shOK ([[46, 46, 40], [46], [46, 46, 46, 46, 41, 40, 40], [46, 46, 40], [46], [46, 46, 46, 41, 41], [46, 46, 41]], [(0, 2), (2, 6), (2, 5), (3, 5)], [(0, 2), (2, 5), (2, 6), (3, 5)]) = true := by decide +kernel
theorem sh4_25 : shOK ([[46, 46, 40], [46], [46, 46, 46, 46, 41, 40, 40], [46], [46, 46, 46, 41, 40], [46], [46, 46, 46, 41, 41]], [(0, 2), (2, 6), (2, 4), (4, 6)], [(0, 2), (2, 4), (2, 6), (4, 6)]) = true := by decide +kernel
theorem sh4_26 : shOK ([[46, 46, 40], [46], [46, 46, 46, 41, 40], [46, 46, 46, 40, 40], [46], [46, 46, 41], [46, 46, 46, 41, 41]], [(0, 2), (2, 6), (3, 6), (3, 5)], [(0, 2), (2, 6), (3, 5), (3, 6)]) = true := by decide +kernel
theorem sh4_27 : shOK ([[46, 46, 40], [46], [46, 46, 46, 41, 40], [46, 46, 40], [46, 46, 40], [46], [46, 46, 46, 46, 41, 41, 41]], [(0, 2), (2, 6), (3, 6), (4, 6)], [(0, 2), (2, 6), (3, 6), (4, 6)]) = true := by decide +kernel
theorem sh4_28 : shOK ([[46], [46, 46, 46, 46, 46, 40, 40, 40, 40], [46], [46, 46, 41], [46, 46, 41], [46, 46, 41], [46, 46, 41]], [(1, 6), (1, 5), (1, 4), (1, 3)], [(1, 3), (1, 4), (1, 5), (1, 6)]) = true := by decide +kernel
theorem sh4_29 : shOK ([[46], [46, 46, 46, 46, 40, 40, 40], [46, 46, 40], [46], [46, 46, 46, 41, 41], [46, 46, 41], [46, 46, 41]], [(1, 6), (1, 5), (1, 4), (2, 4)], [(1, 4), (1, 5), (1, 6), (2, 4)]) = true := by decide +kernel
theorem sh4_30 : shOK ([[46], [46, 46, 46, 46, 40, 40, 40], [46], [46, 46, 46, 41, 40], [46], [46, 46, 46, 41, 41], [46, 46, 41]], [(1, 6), (1, 5), (1, 3), (3, 5)], [(1, 3), (1, 5), (1, 6), (3, 5)]) = true := by decide +kernel
theorem sh4_31 : shOK ([[46], [46, 46, 46, 46, 40, 40, 40], [46], [46, 46, 41], [46, 46, 46, 41, 40], [46], [46, 46, 46, 41, 41]], [(1, 6), (1, 4), (1, 3), (4, 6)], [(1, 3), (1, 4), (1, 6), (4, 6)]) = true := by decide +kernel
theorem sh4_32 : shOK ([[46], [46, 46, 46, 40, 40], [46, 46, 46, 40, 40], [46], [46, 46, 41], [46, 46, 46, 41, 41], [46, 46, 41]], [(1, 6), (1, 5), (2, 5), (2, 4)], [(1, 5), (1, 6), (2, 4), (2, 5)]) = true := by decide +kernel
theorem sh4_33 : shOK ([[46], [46, 46, 46, 40, 40], [46, 46, 40], [46, 46, 40], [46], [46, 46, 46, 46, 41, 41, 41], [46, 46, 41]], [(1, 6), (1, 5), (2, 5), (3, 5)], [(1, 5), (1, 6), (2, 5), (3, 5)]) = true := by decide +kernel
theorem sh4_34 : shOK ([[46], [46, 46, 46, 40, 40], [46, 46, 40], [46], [46, 46, 46, 46, 41, 41, 40], [46], [46, 46, 46, 41, 41]], [(1, 6), (1, 4), (2, 4), (4, 6)], [(1, 4), (1, 6), (2, 4), (4, 6)]) = true := by decide +kernel
theorem sh4_35 : shOK ([[46], [46, 46, 46, 40, 40], [46], [46, 46, 46, 46, 41, 40, 40], [46], [46, 46, 41], [46, 46, 46, 41, 41]], [(1, 6), (1, 3), (3, 6), (3, 5)], [(1, 3), (1, 6), (3, 5), (3, 6)]) = true := by decide +kernel
theorem sh4_36 : shOK ([[46], [46, 46, 46, 40, 40], [46], [46, 46, 46, 41, 40], [46, 46, 40], [46], [46, 46, 46, 46, 41, 41, 41]], [(1, 6), (1, 3), (3, 6), (4, 6)], [(1, 3), (1, 6), (3, 6), (4, 6)]) = true := by decide +kernel
theorem sh4_37 : shOK ([[46], [46, 46, 40], [46, 46, 46, 46, 40, 40, 40], [46], [46, 46, 41], [46, 46, 41], [46, 46, 46, 41, 41]], [(1, 6), (2, 6), (2, 5), (2, 4)], [(1, 6), (2, 4), (2, 5), (2, 6)]) = true := by decide +kernel
theorem sh4_38 : shOK ([[46], [46, 46, 40], [46, 46, 46, 40, 40], [46, 46, 40], [46], [46, 46, 46, 41, 41], [46, 46, 46, 41, 41]], [(1, 6), (2, 6), (2, 5), (3, 5)], [(1, 6), (2, 5), (2, 6), (3, 5)]) = true := by decide +kernel
theorem sh4_39 : shOK ([[46], [46, 46, 40], [46, 46, 46, 40, 40], [46], [46, 46, 46, 41, 40], [46], [46, 46, 46, 46, 41, 41, 41]], [(1, 6), (2, 6), (2, 4), (4, 6)], [(1, 6), (2, 4), (2, 6), (4, 6)]) = true := by decide +kernel
theorem sh4_40 : shOK ([[46], [46, 46, 40], [46, 46, 40], [46, 46, 46, 40, 40], [46], [46, 46, 41], [46, 46, 46, 46, 41, 41, 41]], [(1, 6), (2, 6), (3, 6), (3, 5)], [(1, 6), (2, 6), (3, 5), (3, 6)]) = true := by decide +kernel
theorem sh4_41 : shOK ([[46], [46, 46, 40], [46, 46, 40], [46, 46, 40], [46, 46, 40], [46], [46, 46, 46, 46, 46, 41, 41, 41, 41]], [(1, 6), (2, 6), (3, 6), (4, 6)], [(1, 6), (2, 6), (3, 6), (4, 6)]) = true := by decide +kernel
noncomputable def fin4 : List Sh := [([[46, 46, 46, 46, 46, 40, 40, 40, 40], [46], [46, 46, 41], [46, 46, 41], [46, 46, 41], [46, 46, 41], [46]], [(0, 5), (0, 4), (0, 3), (0, 2)], [(0, 2), (0, 3), (0, 4), (0, 5)]),
  ([[46, 46, 46, 46, 40, 40, 40], [46, 46, 40], [46], [46, 46, 46, 41, 41], [46, 46, 41], [46, 46, 41], [46]], [(0, 5), (0, 4), (0, 3), (1, 3)], [(0, 3), (0, 4), (0, 5), (1, 3)]),
  ([[46, 46, 46, 46, 40, 40, 40], [46], [46, 46, 46, 41, 40], [46], [46, 46, 46, 41, 41], [46, 46, 41], [46]], [(0, 5), (0, 4), (0, 2), (2, 4)], [(0, 2), (0, 4), (0, 5), (2, 4)]),
  ([[46, 46, 46, 46, 40, 40, 40], [46], [46, 46, 41], [46, 46, 46, 41, 40], [46], [46, 46, 46, 41, 41], [46]], [(0, 5), (0, 3), (0, 2), (3, 5)], [(0, 2), (0, 3), (0, 5), (3, 5)]),
  ([[46, 46, 46, 46, 40, 40, 40], [46], [46, 46, 41], [46, 46, 41], [46, 46, 46, 41, 40], [46], [46, 46, 41]], [(0, 4), (0, 3), (0, 2), (4, 6)], [(0, 2), (0, 3), (0, 4), (4, 6)]),
  ([[46, 46, 46, 40, 40], [46, 46, 46, 40, 40], [46], [46, 46, 41], [46, 46, 46, 41, 41], [46, 46, 41], [46]], [(0, 5), (0, 4), (1, 4), (1, 3)], [(0, 4), (0, 5), (1, 3), (1, 4)]),
  ([[46, 46, 46, 40, 40], [46, 46, 40], [46, 46, 40], [46], [46, 46, 46, 46, 41, 41, 41], [46, 46, 41], [46]], [(0, 5), (0, 4), (1, 4), (2, 4)], [(0, 4), (0, 5), (1, 4), (2, 4)]),
  ([[46, 46, 46, 40, 40], [46, 46, 40], [46], [46, 46, 46, 46, 41, 41, 40], [46], [46, 46, 46, 41, 41], [46]], [(0, 5), (0, 3), (1, 3), (3, 5)], [(0, 3), (0, 5), (1, 3), (3, 5)]),
  ([[46, 46, 46, 40, 40], [46, 46, 40], [46], [46, 46, 46, 41, 41], [46, 46, 46, 41, 40], [46], [46, 46, 41]], [(0, 4), (0, 3), (1, 3), (4, 6)], [(0, 3), (0, 4), (1, 3), (4, 6)]),
  ([[46, 46, 46, 40, 40], [46], [46, 46, 46, 46, 41, 40, 40], [46], [46, 46, 41], [46, 46, 46, 41, 41], [46]], [(0, 5), (0, 2), (2, 5), (2, 4)], [(0, 2), (0, 5), (2, 4), (2, 5)]),
  ([[46, 46, 46, 40, 40], [46], [46, 46, 46, 41, 40], [46, 46, 40], [46], [46, 46, 46, 46, 41, 41, 41], [46]], [(0, 5), (0, 2), (2, 5), (3, 5)], [(0, 2), (0, 5), (2, 5), (3, 5)]),
  ([[46, 46, 46, 40, 40], [46], [46, 46, 46, 41, 40], [46], [46, 46, 46, 46, 41, 41, 40], [46], [46, 46, 41]], [(0, 4), (0, 2), (2, 4), (4, 6)], [(0, 2), (0, 4), (2, 4), (4, 6)]),
  ([[46, 46, 46, 40, 40], [46], [46, 46, 41], [46, 46, 46, 46, 41, 40, 40], [46], [46, 46, 41], [46, 46, 41]], [(0, 3), (0, 2), (3, 6), (3, 5)], [(0, 2), (0, 3), (3, 5), (3, 6)]),
  ([[46, 46, 46, 40, 40], [46], [46, 46, 41], [46, 46, 46, 41, 40], [46, 46, 40], [46], [46, 46, 46, 41, 41]], [(0, 3), (0, 2), (3, 6), (4, 6)], [(0, 2), (0, 3), (3, 6), (4, 6)]),
  ([[46, 46, 40], [46, 46, 46, 46, 40, 40, 40], [46], [46, 46, 41], [46, 46, 41], [46, 46, 46, 41, 41], [46]], [(0, 5), (1, 5), (1, 4), (1, 3)], [(0, 5), (1, 3), (1, 4), (1, 5)]),
  ([[46, 46, 40], [46, 46, 46, 40, 40], [46, 46, 40], [46], [46, 46, 46, 41, 41], [46, 46, 46, 41, 41], [46]], [(0, 5), (1, 5), (1, 4), (2, 4)], [(0, 5), (1, 4), (1, 5), (2, 4)]),
  ([[46, 46, 40], [46, 46, 46, 40, 40], [46], [46, 46, 46, 41, 40], [46], [46, 46, 46, 46, 41, 41, 41], [46]], [(0, 5), (1, 5), (1, 3), (3, 5)], [(0, 5), (1, 3), (1, 5), (3, 5)]),
  ([[46, 46, 40], [46, 46, 46, 40, 40], [46], [46, 46, 41], [46, 46, 46, 46, 41, 41, 40], [46], [46, 46, 41]], [(0, 4), (1, 4), (1, 3), (4, 6)], [(0, 4), (1, 3), (1, 4), (4, 6)]),
  ([[46, 46, 40], [46, 46, 40], [46, 46, 46, 40, 40], [46], [46, 46, 41], [46, 46, 46, 46, 41, 41, 41], [46]], [(0, 5), (1, 5), (2, 5), (2, 4)], [(0, 5), (1, 5), (2, 4), (2, 5)]),
  ([[46, 46, 40], [46, 46, 40], [46, 46, 40], [46, 46, 40], [46], [46, 46, 46, 46, 46, 41, 41, 41, 41], [46]], [(0, 5), (1, 5), (2, 5), (3, 5)], [(0, 5), (1, 5), (2, 5), (3, 5)]),
  ([[46, 46, 40], [46, 46, 40], [46, 46, 40], [46], [46, 46, 46, 46, 46, 41, 41, 41, 40], [46], [46, 46, 41]], [(0, 4), (1, 4), (2, 4), (4, 6)], [(0, 4), (1, 4), (2, 4), (4, 6)]),
  ([[46, 46, 40], [46, 46, 40], [46], [46, 46, 46, 46, 46, 41, 41, 40, 40], [46], [46, 46, 41], [46, 46, 41]], [(0, 3), (1, 3), (3, 6), (3, 5)], [(0, 3), (1, 3), (3, 5), (3, 6)]),
  ([[46, 46, 40], [46, 46, 40], [46], [46, 46, 46, 46, 41, 41, 40], [46, 46, 40], [46], [46, 46, 46, 41, 41]], [(0, 3), (1, 3), (3, 6), (4, 6)], [(0, 3), (1, 3), (3, 6), (4, 6)]),
  ([[46, 46, 40], [46], [46, 46, 46, 46, 46, 41, 40, 40, 40], [46], [46, 46, 41], [46, 46, 41], [46, 46, 41]], [(0, 2), (2, 6), (2, 5), (2, 4)], [(0, 2), (2, 4), (2, 5), (2, 6)]),
  ([[46, 46, 40], [46], [46, 46, 46, 46, 41, 40, 40], [46, 46, 40], [46], [46, 46, 46, 41, 41], [46, 46, 41]], [(0, 2), (2, 6), (2, 5), (3, 5)], [(0, 2), (2, 5), (2, 6), (3, 5)]),
  ([[46, 46, 40], [46], [46, 46, 46, 46, 41, 40, 40], [46], [46, 46, 46, 41, 40], [46], [46, 46, 46, 41, 41]], [(0, 2), (2, 6), (2, 4), (4, 6)], [(0, 2), (2, 4), (2, 6), (4, 6)]),
  ([[46, 46, 40], [46], [46, 46, 46, 41, 40], [46, 46, 46, 40, 40], [46], [46, 46, 41], [46, 46, 46, 41, 41]], [(0, 2), (2, 6), (3, 6), (3, 5)], [(0, 2), (2, 6), (3, 5), (3, 6)]),
  ([[46, 46, 40], [46], [46, 46, 46, 41, 40], [46, 46, 40], [46, 46, 40], [46], [46, 46, 46, 46, 41, 41, 41]], [(0, 2), (2, 6), (3, 6), (4, 6)], [(0, 2), (2, 6), (3, 6), (4, 6)]),
  ([[46], [46, 46, 46, 46, 46, 40, 40, 40, 40], [46], [46, 46, 41], [46, 46, 41], [46, 46, 41], [46, 46, 41]], [(1, 6), (1, 5), (1, 4), (1, 3)], [(1, 3), (1, 4), (1, 5), (1, 6)]),
  ([[46], [46, 46, 46, 46, 40, 40, 40], [46, 46, 40], [46], [46, 46, 46, 41, 41], [46, 46, 41], [46, 46, 41]], [(1, 6), (1, 5), (1, 4), (2, 4)], [(1, 4), (1, 5), (1, 6), (2, 4)]),
  ([[46], [46, 46, 46, 46, 40, 40, 40], [46], [46, 46, 46, 41, 40], [46], [46, 46, 46, 41, 41], [46, 46, 41]], [(1, 6), (1, 5), (1, 3), (3, 5)], [(1, 3), (1, 5), (1, 6), (3, 5)]),
  ([[46], [46, 46, 46, 46, 40, 40, 40], [46], [46, 46, 41], [46, 46, 46, 41, 40], [46], [46, 46, 46, 41, 41]], [(1, 6), (1, 4), (1, 3), (4, 6)], [(1, 3), (1, 4), (1, 6), (4, 6)]),
  ([[46], [46, 46, 46, 40, 40], [46, 46, 46, 40, 40], [46], [46, 46, 41], [46, 46, 46, 41, 41], [46, 46, 41]], [(1, 6), (1, 5), (2, 5), (2, 4)], [(1, 5), (1, 6), (2, 4), (2, 5)]),
  ([[46], [46, 46, 46, 40, 40], [46, 46, 40], [46, 46, 40], [46], [46, 46, 46, 46, 41, 41, 41], [46, 46, 41]], [(1, 6), (1, 5), (2, 5), (3, 5)], [(1, 5), (1, 6), (2, 5), (3, 5)]),
  ([[46], [46, 46, 46, 40, 40], [46, 46, 40], [46], [46, 46, 46, 46, 41, 41, 40], [46], [46, 46, 46, 41, 41]], [(1, 6), (1, 4), (2, 4), (4, 6)], [(1, 4), (1, 6), (2, 4), (4, 6)]),
  ([[46], [46, 46, 46, 40, 40], [46], [46, 46, 46, 46, 41, 40, 40], [46], [46, 46, 41], [46, 46, 46, 41, 41]], [(1, 6), (1, 3), (3, 6), (3, 5)], [(1, 3), (1, 6), (3, 5), (3, 6)]),
  ([[46], [46, 46, 46, 40, 40], [46], [46, 46, 46, 41, 40], [46, 46, 40], [46], [46, 46, 46, 46, 41, 41, 41]], [(1, 6), (1, 3), (3, 6), (4, 6)], [(1, 3), (1, 6), (3, 6), (4, 6)]),
  ([[46], [46, 46, 40], [46, 46, 46, 46, 40, 40, 40], [46], [46, 46, 41], [46, 46, 41], [46, 46, 46, 41, 41]], [(1, 6), (2, 6), (2, 5), (2, 4)], [(1, 6), (2, 4), (2, 5), (2, 6)]),
  ([[46], [46, 46, 40], [46, 46, 46, 40, 40], [46, 46, 40], [46], [46, 46, 46, 41, 41], [46, 46, 46, 41, 41]], [(1, 6), (2, 6), (2, 5), (3, 5)], [(1, 6), (2, 5), (2, 6), (3, 5)]),
  ([[46], [46, 46, 40], [46, 46, 46, 40, 40], [46], [46, 46, 46, 41, 40], [46], [46, 46, 46, 46, 41, 41, 41]], [(1, 6), (2, 6), (2, 4), (4, 6)], [(1, 6), (2, 4), (2, 6), (4, 6)]),
  ([[46], [46, 46, 40], [46, 46, 40], [46, 46, 46, 40, 40], [46], [46, 46, 41], [46, 46, 46, 46, 41, 41, 41]], [(1, 6), (2, 6), (3, 6), (3, 5)], [(1, 6), (2, 6), (3, 5), (3, 6)]),
  ([[46], [46, 46, 40], [46, 46, 40], [46, 46, 40], [46, 46, 40], [46], [46, 46, 46, 46, 46, 41, 41, 41, 41]], [(1, 6), (2, 6), (3, 6), (4, 6)], [(1, 6), (2, 6), (3, 6), (4, 6)])]
theorem fin4_ok : ∀ s ∈ fin4, shOK s = true := by
  show ∀ s ∈ [_, _, _, _, _, _, _, _, _, _, _, _, _, _, _, _, _, _, _, _, _, _, _, _, _, _, _, _, _, _, _, _, _, _, _, _, _, _, _, _, _, _], _
  refine List.forall_mem_cons.mpr ⟨sh4_0, ?_⟩
  refine List.forall_mem_cons.mpr ⟨sh4_1, ?_⟩
  refine List.forall_mem_cons.mpr ⟨sh4_2, ?_⟩
  refine List.forall_mem_cons.mpr ⟨sh4_3, ?_⟩
  refine List.forall_mem_cons.mpr ⟨sh4_4, ?_⟩
  refine List.forall_mem_cons.mpr ⟨sh4_5, ?_⟩
  refine List.forall_mem_cons.mpr ⟨sh4_6, ?_⟩
  refine List.forall_mem_cons.mpr ⟨sh4_7, ?_⟩
  refine List.forall_mem_cons.mpr ⟨sh4_8, ?_⟩
  refine List.forall_mem_cons.mpr ⟨sh4_9, ?_⟩
  refine List.forall_mem_cons.mpr ⟨sh4_10, ?_⟩
  refine List.forall_mem_cons.mpr ⟨sh4_11, ?_⟩
  refine List.forall_mem_cons.mpr ⟨sh4_12, ?_⟩
  refine List.forall_mem_cons.mpr ⟨sh4_13, ?_⟩
  refine List.forall_mem_cons.mpr ⟨sh4_14, ?_⟩
  refine List.forall_mem_cons.mpr ⟨sh4_15, ?_⟩
  refine List.forall_mem_cons.mpr ⟨sh4_16, ?_⟩
  refine List.forall_mem_cons.mpr ⟨sh4_17, ?_⟩
  refine List.forall_mem_cons.mpr ⟨sh4_18, ?_⟩
  refine List.forall_mem_cons.mpr ⟨sh4_19, ?_⟩
  refine List.forall_mem_cons.mpr ⟨sh4_20, ?_⟩
  refine List.forall_mem_cons.mpr ⟨sh4_21, ?_⟩
  refine List.forall_mem_cons.mpr ⟨sh4_22, ?_⟩
  refine List.forall_mem_cons.mpr ⟨sh4_23, ?_⟩
  refine List.forall_mem_cons.mpr ⟨sh4_24, ?_⟩
  refine List.forall_mem_cons.mpr ⟨sh4_25, ?_⟩
  refine List.forall_mem_cons.mpr ⟨sh4_26, ?_⟩
  refine List.forall_mem_cons.mpr ⟨sh4_27, ?_⟩
  refine List.forall_mem_cons.mpr ⟨sh4_28, ?_⟩
  refine List.forall_mem_cons.mpr ⟨sh4_29, ?_⟩
  refine List.forall_mem_cons.mpr ⟨sh4_30, ?_⟩
  refine List.forall_mem_cons.mpr ⟨sh4_31, ?_⟩
  refine List.forall_mem_cons.mpr ⟨sh4_32, ?_⟩
  refine List.forall_mem_cons.mpr ⟨sh4_33, ?_⟩
  refine List.forall_mem_cons.mpr ⟨sh4_34, ?_⟩
  refine List.forall_mem_cons.mpr ⟨sh4_35, ?_⟩
  refine List.forall_mem_cons.mpr ⟨sh4_36, ?_⟩
  refine List.forall_mem_cons.mpr ⟨sh4_37, ?_⟩
  refine List.forall_mem_cons.mpr ⟨sh4_38, ?_⟩
  refine List.forall_mem_cons.mpr ⟨sh4_39, ?_⟩
  refine List.forall_mem_cons.mpr ⟨sh4_40, ?_⟩
  refine List.forall_mem_cons.mpr ⟨sh4_41, ?_⟩
  exact fun _ h => nomatch h
theorem end3_ok : (sts 3).all (stOK fin3) = true := by decide +kernel
theorem end4_ok : (sts 4).all (stOK fin4) = true := by decide +kernel
end Mine
end
section
open PySem PySem.W PyProof.Rows PySem.Calls
namespace Mine
set_option maxRecDepth 100000
set_option maxHeartbeats 8000000

theorem end_of {P : Params} {tab : List Sh} (ht : ∀ s ∈ tab, shOK s = true) {s : LX} (h : stOK tab s = true) : ∃ due, EndF P (toLS s) due := by
  simp only [stOK, Bool.and_eq_true, decide_eq_true_eq, List.all_eq_true, List.any_eq_true] at h
  obtain ⟨⟨a1, a2⟩, ⟨rows, ms, due⟩, hm, a3, a4⟩ := h
  have hs := ht _ hm
  dsimp only at a3 a4
  obtain ⟨srows, names, ch⟩ := s
  dsimp only at a1 a2 a3
  subst a3
  simp only [shOK, Bool.and_eq_true, decide_eq_true_eq, List.all_eq_true, List.mem_range] at hs
  obtain ⟨⟨⟨⟨⟨⟨b1, b2⟩, b3⟩, b4⟩, b5⟩, b6⟩, b7⟩ := hs
  simp only [srtOK, Bool.and_eq_true, decide_eq_true_eq] at a4
  obtain ⟨⟨⟨⟨c1, c2⟩, c3⟩, c4⟩, c5⟩ := a4
  have hrow : ∀ r ∈ rows, rowOK r = true := fun r hr => List.all_eq_true.mp rowTab_ok r (b3 r hr)
  have hr3 : ∀ r ∈ rows, r.length ≤ 20 ∧ Txt.lstripChars (S r) ⟨#[46]⟩ = S (rest r) ∧ NumF P0 (S r) (wantR r).length (wantR r) := fun r hr => by
    have := hrow r hr
    simp only [rowOK, Bool.and_eq_true, decide_eq_true_eq] at this
    exact ⟨this.1.1, this.1.2, numOK_ok this.2⟩
  simp only [fzOK, Bool.and_eq_true, decide_eq_true_eq, List.all_eq_true, List.mem_range] at b6
  obtain ⟨⟨⟨z1, z2⟩, z3⟩, z4⟩ := b6
  rw [a1] at b1 b2 z1 z2 z3 z4
  refine ⟨due, ?_⟩
  exact {
    du := {
      nl := by show names.length ≤ 20; omega
      rl := by show (rows.map S).length = names.length; rw [List.length_map]; exact a1
      idx := a2
      s2 := c1
      s64 := c2
      kok := c3
      kp := c4
      kout := c5
      dl := b7 }
    nu := fun k hk => by
      have hk' : k < rows.length := by
        have : k < (rows.map S).length := hk
        rwa [List.length_map] at this
      have e1 : (rows.map S).getD k ⟨#[]⟩ = S (rows.getD k []) := by simp [hk']
      have e2 : rows.getD k [] ∈ rows := by
        have : rows.getD k [] = rows[k] := by simp [hk']
        rw [this]; exact List.getElem_mem hk'
      refine ⟨(wantR (rows.getD k [])).length, ?_⟩
      show NumF P ((rows.map S).getD k ⟨#[]⟩) _ _
      rw [e1, b4 k hk']
      exact NumF.any (hr3 _ e2).2.2
    mt := mtG_of (by show rows.length ≤ 20; omega) (fun r hr => (hr3 r hr).1) (fun r hr => (hr3 r hr).2.1) b5
    sz := b1
    jl := z1
    jb := z2
    tl := z3
    fr := fun i m him => z4 i (by show i < names.length; have : i + 1 + m < names.length := him; omega) m (by show m < names.length - 1 - i; have : i + 1 + m < names.length := him; omega) }
theorem good_end {P : Params} (N : Nat) (t : LS) (hN : N = 3 ∨ N = 4) (hG : GoodX N t) : ∃ due, EndF P t due := by
  obtain ⟨s, hs, rfl⟩ := hG
  rcases hN with rfl | rfl
  · exact end_of fin3_ok (List.all_eq_true.mp end3_ok s hs)
  · exact end_of fin4_ok (List.all_eq_true.mp end4_ok s hs)
theorem law_ok {C : Cx} {mb : Str → Option Value} (B : Bs C.w C.hT mb) (hr : Rm C.A 20) (ns : List Int) (hns : ns.length ≤ 63) : CallOK C (.ref 108) [.lst (ns.map .int)] (.bool true) :=
  ok_law B hr GoodX good0 (fun turn t x h1 h2 h3 h4 => good_step turn t x h1 h2 h3 h4) (fun N t h1 h2 => good_end N t h1 h2) ns hns
end Mine
end
section
open PySem PySem.W PyProof.Rows PySem.Calls
namespace Mine
set_option maxRecDepth 100000
set_option maxHeartbeats 8000000

theorem RpL.ofInts {X : List Addr} {h : Heap} : ∀ {vs : List Value} {ns : List Int}, IntsAre vs ns → RpL X h vs (ns.map .int)
  | _, _, .nil => .nil
  | _, _, .cons _ _ r => .cons (.int _ _) (RpL.ofInts r)
theorem Bs.of {w : World} {h : Heap} {p : Program} {loose : List Str} {mean : ExcName → Option Value} {mg mb : Str → Option Value} (KX : (KH w.params).In h) (T : Top p loose mean mg mb h) : Bs w h mb := by
  refine ⟨KX, ?_, T.b, T.builtins, T.nolimit⟩
  obtain ⟨o, es, ep, e, d, k, f⟩ := T.g
  have e2 := KX _ _ (esG w.params).2
  have e3 : some o = some _ := e.symm.trans e2
  cases e3
  cases d
  exact ⟨_, _, _, e2, rfl, k, fun _ => rfl⟩
theorem well_list {P : Params} {h : Heap} {a : Addr} {xs : List WData} (w : Well P h (.ref a) (.list xs)) : ∃ vs : List Value, h.get? a = some { cls := .type "list", data := .seq vs.toArray } := by
  cases w with | list e _ => exact ⟨_, e⟩
theorem J (H : ∀ {C : Cx} {mb : Str → Option Value} (B : Bs C.w C.hT mb) (hr : Rm C.A 20) (ns : List Int), ns.length ≤ 63 → CallOK C (.ref 108) [.lst (ns.map .int)] (.bool true)) : PySem.Challenge.rw_rs0110_01.Holds := by
  refine hdM ?_
  intro w s₀ s₁ mg mb G Y fa o pm cd doc dV kV ho hd hcd hD hmg hg args vals as hpre hlay hrd hwl hlo
  have KX := kIn_of Y
  refine Ground.open G ?_
  intro T B D TE TW
  wrow_args hpre hlay hrd hwl hlo
  clear hd hcd hD
  have BB := Bs.of KX T
  have hm : mg lawD.name = some (.ref 108) := by rw [ns_fun T.g BB.g, lawD_name]; rfl
  have hfa : fa = 108 := Value.ref.inj (Option.some.inj (hmg.symm.trans hm))
  subst hfa
  clear hmg hm
  rename_i ns _ _ _ _ _ _ _ a vs _ hL _ w1 _ hI _ hn _
  have hob : s₁.heap.get? a = some (lstO vs 0) := by
    obtain ⟨ws, e⟩ := well_list w1
    obtain ⟨o', e2, _, n', e3⟩ := hL
    rw [e] at e2
    cases e2
    injection e3 with e4 e5
    rw [e, e4]
  refine (H (C := { prog := PySem.Challenge.rw_rs0110_01.row.prog, w := w, hT := s₁.heap, A := callerA, env := callEnvC f79.1 0 0, ns := [] }) (mb := mb) BB ⟨rfl, by show 1 + 300 + 20 < 1000; omega, by show 4 + 100 + 10 * 20 < 9900; omega⟩ ns (by omega)).go [] s₁ _ _ _ (fun _ _ e => e) (fun _ h => nomatch h) (.cons (.lst (fun h => nomatch h) hob (RpL.ofInts hI)) .nil) fun r s' e hr => ?_
  cases hr
  refine ⟨.inl ⟨_, _, _, rfl, fun _ => rfl, .bool _, ?_, ?_⟩, .of_keep e.k, e.os, e.bare (.of_eq hg)⟩
  · wrow_post
  · exact fun _ => ⟨List.nodup_nil, fun _ h => nomatch h⟩
end Mine
end
theorem PySem.Challenge.cw_rs0110_01_holds : PySem.Challenge.rw_rs0110_01.Holds :=
  Mine.J Mine.law_ok
