import PyProof.Rows.All
import Wide.All
import OpenK.AllK
import Wide.FinOn
import PySem.Challenge.RW_in0026_02
open PySem PySem.W PyProof.Rows
set_option Elab.async false
set_option maxRecDepth 100000
set_option maxHeartbeats 8000000
set_option compiler.extract_closed false
set_option genInjectivity false
set_option genSizeOfSpec false
namespace Mine
section
noncomputable def st (i : Nat) : Stmt := PySem.Challenge.pw_in0026_02.main.body.getD i default
noncomputable def vw : Program := { PySem.Challenge.pw_in0026_02 with main := { PySem.Challenge.pw_in0026_02.main with body := [st 0, st 1, st 3, st 4, st 5, st 6, st 8, st 9, st 11, st 12, st 14, st 15, st 17, st 18, st 19, st 20, st 21, st 22] } }
noncomputable abbrev loose0 : List Str := [Str.ofString "_Accumulator", Str.ofString "_twin_re_1", Str.ofString "_special_chars_map"]
noncomputable abbrev look0 : Shared → Bool := fun s => xlAt vw [] s && recOk (RowW.records (OpenRow.toRowW PySem.Challenge.rw_in0026_02.row)) s
local macro_rules
  | `(tactic| o_head (kmHook $K $as $e $_)) => do
    let hw := Lean.mkIdent `hw
    let hc := Lean.mkIdent `hc
    `(tactic| refine (fun h => holds_open (q := vw) (loose := loose0) (Xt := look0) (XP := XL vw []) (Yf := Hook.obs (kmHook $K $as $e [157, 164, 225])) (Ya := Hook.val (kmHook $K $as $e [157, 164, 225])) (YP := Hook.says (kmHook $K $as $e [157, 164, 225])) (N := 5628) (And.left h) (Hook.of (kmHook $K $as $e [157, 164, 225])) (Hook.keeps (kmHook $K $as $e [157, 164, 225])) (fun s e => xl_of s (Bool.and_eq_true_iff.mp e).1) XL.keeps (by rfl) (by rfl) (by rfl) (fun s e => recFacts_of (Bool.and_eq_true_iff.mp e).2) (by rfl) (by first | assumption | decide +kernel) (by decide +kernel) ⟨rfl, rfl, rfl, rfl, rfl, by decide +kernel⟩ ?$hw (And.right h)) ?$hc)
local macro_rules
  | `(tactic| o_law) => `(tactic| refine holds_law (by kernel_rfl) fun said => ?_)
open_top hd for PySem.Challenge.rw_in0026_02
noncomputable def addrs : List Addr := [2, 3, 32, 34, 35, 37, 38, 46, 48, 49, 51, 52, 53, 55, 56, 58, 59, 60, 62, 63, 65, 66, 67, 69, 70, 72, 73, 74, 76, 77, 79, 80, 81, 83, 84, 86, 87, 88, 90, 91, 93, 94, 95, 97, 98, 100, 101, 102, 104, 105, 107, 108, 109, 110, 111, 112, 113, 116, 119, 124, 125, 126, 128, 129, 131, 132, 133, 135, 136, 138, 139, 140, 141, 143, 144, 146, 147, 148, 149, 151, 152, 154, 155, 156, 158, 159, 161, 162, 163, 165, 166, 168, 169, 170, 171, 173, 174, 176, 177, 178, 180, 181, 183, 184, 185, 186, 188, 189, 191, 192, 193, 194, 195, 196, 197, 203, 204, 205, 207, 208, 210, 211, 213, 217, 219, 220, 222, 223, 224, 226, 227, 229, 230, 231, 233, 234, 236, 237, 238, 240, 241, 243, 244, 245, 247, 248, 250, 251, 252, 254, 255, 257, 258, 259, 261, 262, 264, 265, 266, 268, 269, 271, 272, 273, 276, 277]
noncomputable def hook : Hook := kmHook hd.heap_1 addrs (fun _ => by kernel_rfl) [157, 164, 225]
noncomputable abbrev Side (w : World) : Prop := (openEnds treeTable PySem.Challenge.rw_in0026_02.row.prog w 5628).map (fun s => (openSeen vw loose0 (importedModules PySem.Challenge.rw_in0026_02.row.prog.main.body) look0 true s, hook.obs s)) = some (openGood vw loose0, hook.val w)
noncomputable def ent (p : Params) (s : String) (t : Nat) (v : Value) : DictEntry := { hash := PyData.keyHash p (Str.ofString s), key := Value.str (Str.ofString s) t, val := v }
noncomputable def op_heap (p : Params) : Heap := { objs := Array.mk [
  boot_o_0 p,
  { cls := Value.type "dict", data := Data.dict #[ent p "builtins" 162 (Value.ref 4), ent p "__main__" 163 (Value.ref 5), ent p "_sre" 244 (Value.ref 12)] 3 },
  { cls := Value.none, data := Data.dict #[ent p "\x69mport.loaded._sre" 183 (Value.bool true), ent p "class._frozen_importlib.BuiltinImporter" 185 (Value.ref 14), ent p "watched.\x69mport" 206 (Value.ref 18), ent p "class._frozen_importlib.ModuleSpec" 216 (Value.ref 22), ent p "sys.modules.booked-epoch" 245 (Value.int 3 0), ent p "\x69mport.later-laid._sre" 270 (Value.bool true), ent p "watched.library" 272 (Value.ref 27), ent p "watched.library-objects" 0 (Value.str { cps := #[12] } 0), ent p "watched.library-deep._sre" 273 (Value.str { cps := #[4, 0, 0, 11, 4, 0, 0, 11, 4, 0, 0, 3, 4, 0, 0, 11, 8, 4, 100, 105, 99, 116, 2] } 0)] 9 },
  { cls := Value.type "dict", data := Data.dict #[ent p "__name__" 165 (Value.str (Str.ofString "__main__") 164), ent p "__doc__" 166 (Value.none), ent p "__package__" 167 (Value.none), ent p "__loader__" 168 (Value.builtin "__main__.__loader__#\x6fpaque"), ent p "__spec__" 169 (Value.none), ent p "__annotations__" 170 (Value.ref 6), ent p "__builtins__" 171 (Value.ref 4), ent p "__file__" 173 (Value.str (Str.ofString "/claim/cut.py") 172), ent p "__cached__" 174 (Value.none), ent p "_sre" 275 (Value.ref 12)] 10 },
  boot_o_4 p,
  boot_o_5 p,
  boot_o_6 p,
  boot_o_7 p,
  boot_o_8 p,
  boot_o_9 p,
  boot_o_10 p,
  { cls := Value.type "dict", data := Data.dict #[ent p "__name__" 247 (Value.str (Str.ofString "_sre") 246), ent p "__doc__" 248 (Value.none), ent p "__package__" 250 (Value.str (Str.ofString "") 249), ent p "__loader__" 251 (Value.builtin "off-the-table:_sre.__loader__:shared#\x6fpaque"), ent p "__spec__" 252 (Value.builtin "off-the-table:_sre.__spec__:shared#\x6fpaque"), ent p "compile" 253 (Value.builtin "_sre.compile"), ent p "template" 254 (Value.builtin "off-the-table:_sre.template:shared#\x6fpaque"), ent p "getcodesize" 255 (Value.builtin "off-the-table:_sre.getcodesize:shared#\x6fpaque"), ent p "ascii_iscased" 256 (Value.builtin "off-the-table:_sre.ascii_iscased:shared#\x6fpaque"), ent p "unicode_iscased" 257 (Value.builtin "off-the-table:_sre.unicode_iscased:shared#\x6fpaque"), ent p "ascii_tolower" 258 (Value.builtin "off-the-table:_sre.ascii_tolower:shared#\x6fpaque"), ent p "unicode_tolower" 259 (Value.builtin "off-the-table:_sre.unicode_tolower:shared#\x6fpaque"), ent p "MAGIC" 261 (Value.int 20230612 260), ent p "CODESIZE" 263 (Value.int 4 262), ent p "MAXREPEAT" 265 (Value.int 4294967295 264), ent p "MAXGROUPS" 267 (Value.int 1073741823 266), ent p "copyright" 269 (Value.str (Str.ofString " SRE 2.2.2 Copyright (c) 1997-2002 by Secret Labs AB ") 268)] 17 },
  { cls := Value.type "module", dict := some 11 },
  { cls := Value.type "dict", data := Data.dict #[ent p "__module__" 189 (Value.str (Str.ofString "_frozen_importlib") 186), ent p "__firstlineno__" 190 (Value.int 971 187), ent p "__doc__" 191 (Value.builtin "_frozen_importlib.BuiltinImporter.__doc__:str#\x6fpaque"), ent p "_ORIGIN" 192 (Value.str (Str.ofString "built-in") 188), ent p "find_spec" 193 (Value.builtin "_frozen_importlib.BuiltinImporter.find_spec#\x6fpaque"), ent p "create_module" 194 (Value.builtin "_frozen_importlib.BuiltinImporter.create_module#\x6fpaque"), ent p "exec_module" 195 (Value.builtin "_frozen_importlib.BuiltinImporter.exec_module#\x6fpaque"), ent p "get_code" 196 (Value.builtin "_frozen_importlib.BuiltinImporter.get_code#\x6fpaque"), ent p "get_source" 197 (Value.builtin "_frozen_importlib.BuiltinImporter.get_source#\x6fpaque"), ent p "is_package" 198 (Value.builtin "_frozen_importlib.BuiltinImporter.is_package#\x6fpaque"), ent p "load_module" 199 (Value.builtin "_frozen_importlib.BuiltinImporter.load_module#\x6fpaque"), ent p "__static_attributes__" 200 (Value.ref 15), ent p "__dict__" 202 (Value.ref 16), ent p "__weakref__" 204 (Value.ref 17)] 14 },
  { cls := Value.type "type", data := Data.cls { name := Str.ofString "BuiltinImporter", bases := [Value.type "object"], mro := [Value.ref 14, Value.type "object"], ns := 13, qualname := Str.ofString "BuiltinImporter" } },
  { cls := Value.type "tuple", data := Data.seq #[] },
  { cls := Value.type "getset_descriptor", data := Data.fields #[Value.str (Str.ofString "__dict__") 201, Value.ref 14, Value.builtin "function.__dict__", Value.builtin "function.__dict__#set"] },
  { cls := Value.type "getset_descriptor", data := Data.fields #[Value.str (Str.ofString "__weakref__") 203, Value.ref 14, Value.builtin "ExceptionGroup.__weakref__", Value.none] },
  { cls := Value.none, data := Data.seq #[Value.int 13 0, Value.str { cps := #[6, 189, 10, 95, 95, 109, 111, 100, 117, 108, 101, 95, 95, 6, 186, 17, 95, 102, 114, 111, 122, 101, 110, 95, 105, 109, 112, 111, 114, 116, 108, 105, 98, 6, 190, 15, 95, 95, 102, 105, 114, 115, 116, 108, 105, 110, 101, 110, 111, 95, 95, 4, 187, 0, 971, 6, 191, 7, 95, 95, 100, 111, 99, 95, 95, 9, 52, 95, 102, 114, 111, 122, 101, 110, 95, 105, 109, 112, 111, 114, 116, 108, 105, 98, 46, 66, 117, 105, 108, 116, 105, 110, 73, 109, 112, 111, 114, 116, 101, 114, 46, 95, 95, 100, 111, 99, 95, 95, 58, 115, 116, 114, 35, 111, 112, 97, 113, 117, 101, 6, 192, 7, 95, 79, 82, 73, 71, 73, 78, 6, 188, 8, 98, 117, 105, 108, 116, 45, 105, 110, 6, 193, 9, 102, 105, 110, 100, 95, 115, 112, 101, 99, 9, 50, 95, 102, 114, 111, 122, 101, 110, 95, 105, 109, 112, 111, 114, 116, 108, 105, 98, 46, 66, 117, 105, 108, 116, 105, 110, 73, 109, 112, 111, 114, 116, 101, 114, 46, 102, 105, 110, 100, 95, 115, 112, 101, 99, 35, 111, 112, 97, 113, 117, 101, 6, 194, 13, 99, 114, 101, 97, 116, 101, 95, 109, 111, 100, 117, 108, 101, 9, 54, 95, 102, 114, 111, 122, 101, 110, 95, 105, 109, 112, 111, 114, 116, 108, 105, 98, 46, 66, 117, 105, 108, 116, 105, 110, 73, 109, 112, 111, 114, 116, 101, 114, 46, 99, 114, 101, 97, 116, 101, 95, 109, 111, 100, 117, 108, 101, 35, 111, 112, 97, 113, 117, 101, 6, 195, 11, 101, 120, 101, 99, 95, 109, 111, 100, 117, 108, 101, 9, 52, 95, 102, 114, 111, 122, 101, 110, 95, 105, 109, 112, 111, 114, 116, 108, 105, 98, 46, 66, 117, 105, 108, 116, 105, 110, 73, 109, 112, 111, 114, 116, 101, 114, 46, 101, 120, 101, 99, 95, 109, 111, 100, 117, 108, 101, 35, 111, 112, 97, 113, 117, 101, 6, 196, 8, 103, 101, 116, 95, 99, 111, 100, 101, 9, 49, 95, 102, 114, 111, 122, 101, 110, 95, 105, 109, 112, 111, 114, 116, 108, 105, 98, 46, 66, 117, 105, 108, 116, 105, 110, 73, 109, 112, 111, 114, 116, 101, 114, 46, 103, 101, 116, 95, 99, 111, 100, 101, 35, 111, 112, 97, 113, 117, 101, 6, 197, 10, 103, 101, 116, 95, 115, 111, 117, 114, 99, 101, 9, 51, 95, 102, 114, 111, 122, 101, 110, 95, 105, 109, 112, 111, 114, 116, 108, 105, 98, 46, 66, 117, 105, 108, 116, 105, 110, 73, 109, 112, 111, 114, 116, 101, 114, 46, 103, 101, 116, 95, 115, 111, 117, 114, 99, 101, 35, 111, 112, 97, 113, 117, 101, 6, 198, 10, 105, 115, 95, 112, 97, 99, 107, 97, 103, 101, 9, 51, 95, 102, 114, 111, 122, 101, 110, 95, 105, 109, 112, 111, 114, 116, 108, 105, 98, 46, 66, 117, 105, 108, 116, 105, 110, 73, 109, 112, 111, 114, 116, 101, 114, 46, 105, 115, 95, 112, 97, 99, 107, 97, 103, 101, 35, 111, 112, 97, 113, 117, 101, 6, 199, 11, 108, 111, 97, 100, 95, 109, 111, 100, 117, 108, 101, 9, 52, 95, 102, 114, 111, 122, 101, 110, 95, 105, 109, 112, 111, 114, 116, 108, 105, 98, 46, 66, 117, 105, 108, 116, 105, 110, 73, 109, 112, 111, 114, 116, 101, 114, 46, 108, 111, 97, 100, 95, 109, 111, 100, 117, 108, 101, 35, 111, 112, 97, 113, 117, 101, 6, 200, 21, 95, 95, 115, 116, 97, 116, 105, 99, 95, 97, 116, 116, 114, 105, 98, 117, 116, 101, 115, 95, 95, 4, 0, 0, 15, 6, 202, 8, 95, 95, 100, 105, 99, 116, 95, 95, 4, 0, 0, 16, 6, 204, 11, 95, 95, 119, 101, 97, 107, 114, 101, 102, 95, 95, 4, 0, 0, 17] } 0, Value.bool true, Value.bool true, Value.str (Str.ofString "") 205, Value.int 21 0, Value.str { cps := #[6, 227, 10, 95, 95, 109, 111, 100, 117, 108, 101, 95, 95, 6, 217, 17, 95, 102, 114, 111, 122, 101, 110, 95, 105, 109, 112, 111, 114, 116, 108, 105, 98, 6, 228, 15, 95, 95, 102, 105, 114, 115, 116, 108, 105, 110, 101, 110, 111, 95, 95, 4, 218, 0, 562, 6, 229, 7, 95, 95, 100, 111, 99, 95, 95, 9, 47, 95, 102, 114, 111, 122, 101, 110, 95, 105, 109, 112, 111, 114, 116, 108, 105, 98, 46, 77, 111, 100, 117, 108, 101, 83, 112, 101, 99, 46, 95, 95, 100, 111, 99, 95, 95, 58, 115, 116, 114, 35, 111, 112, 97, 113, 117, 101, 6, 230, 8, 95, 95, 105, 110, 105, 116, 95, 95, 9, 44, 95, 102, 114, 111, 122, 101, 110, 95, 105, 109, 112, 111, 114, 116, 108, 105, 98, 46, 77, 111, 100, 117, 108, 101, 83, 112, 101, 99, 46, 95, 95, 105, 110, 105, 116, 95, 95, 35, 111, 112, 97, 113, 117, 101, 6, 231, 8, 95, 95, 114, 101, 112, 114, 95, 95, 9, 44, 95, 102, 114, 111, 122, 101, 110, 95, 105, 109, 112, 111, 114, 116, 108, 105, 98, 46, 77, 111, 100, 117, 108, 101, 83, 112, 101, 99, 46, 95, 95, 114, 101, 112, 114, 95, 95, 35, 111, 112, 97, 113, 117, 101, 6, 232, 6, 95, 95, 101, 113, 95, 95, 9, 42, 95, 102, 114, 111, 122, 101, 110, 95, 105, 109, 112, 111, 114, 116, 108, 105, 98, 46, 77, 111, 100, 117, 108, 101, 83, 112, 101, 99, 46, 95, 95, 101, 113, 95, 95, 35, 111, 112, 97, 113, 117, 101, 6, 233, 6, 99, 97, 99, 104, 101, 100, 9, 42, 95, 102, 114, 111, 122, 101, 110, 95, 105, 109, 112, 111, 114, 116, 108, 105, 98, 46, 77, 111, 100, 117, 108, 101, 83, 112, 101, 99, 46, 99, 97, 99, 104, 101, 100, 35, 111, 112, 97, 113, 117, 101, 6, 234, 6, 112, 97, 114, 101, 110, 116, 9, 42, 95, 102, 114, 111, 122, 101, 110, 95, 105, 109, 112, 111, 114, 116, 108, 105, 98, 46, 77, 111, 100, 117, 108, 101, 83, 112, 101, 99, 46, 112, 97, 114, 101, 110, 116, 35, 111, 112, 97, 113, 117, 101, 6, 235, 12, 104, 97, 115, 95, 108, 111, 99, 97, 116, 105, 111, 110, 9, 48, 95, 102, 114, 111, 122, 101, 110, 95, 105, 109, 112, 111, 114, 116, 108, 105, 98, 46, 77, 111, 100, 117, 108, 101, 83, 112, 101, 99, 46, 104, 97, 115, 95, 108, 111, 99, 97, 116, 105, 111, 110, 35, 111, 112, 97, 113, 117, 101, 6, 236, 21, 95, 95, 115, 116, 97, 116, 105, 99, 95, 97, 116, 116, 114, 105, 98, 117, 116, 101, 115, 95, 95, 4, 0, 0, 23, 6, 238, 8, 95, 95, 100, 105, 99, 116, 95, 95, 4, 0, 0, 24, 6, 240, 11, 95, 95, 119, 101, 97, 107, 114, 101, 102, 95, 95, 4, 0, 0, 25, 6, 241, 8, 95, 95, 104, 97, 115, 104, 95, 95, 0] } 0, Value.bool true, Value.bool true, Value.str (Str.ofString "") 242] 1 },
  { cls := Value.type "list", data := Data.seq #[] },
  { cls := Value.type "dict", data := Data.dict #[ent p "name" 208 (Value.str (Str.ofString "_sre") 207), ent p "loader" 209 (Value.ref 14), ent p "origin" 210 (Value.str (Str.ofString "built-in") 184), ent p "loader_state" 211 (Value.none), ent p "submodule_search_locations" 212 (Value.none), ent p "_uninitialized_submodules" 213 (Value.ref 19), ent p "_set_fileattr" 214 (Value.bool false), ent p "_cached" 215 (Value.none), ent p "_initializing" 243 (Value.bool false)] 9 },
  { cls := Value.type "dict", data := Data.dict #[ent p "__module__" 227 (Value.str (Str.ofString "_frozen_importlib") 217), ent p "__firstlineno__" 228 (Value.int 562 218), ent p "__doc__" 229 (Value.builtin "_frozen_importlib.ModuleSpec.__doc__:str#\x6fpaque"), ent p "__init__" 230 (Value.builtin "_frozen_importlib.ModuleSpec.__init__#\x6fpaque"), ent p "__repr__" 231 (Value.builtin "_frozen_importlib.ModuleSpec.__repr__#\x6fpaque"), ent p "__eq__" 232 (Value.builtin "_frozen_importlib.ModuleSpec.__eq__#\x6fpaque"), ent p "cached" 233 (Value.builtin "_frozen_importlib.ModuleSpec.cached#\x6fpaque"), ent p "parent" 234 (Value.builtin "_frozen_importlib.ModuleSpec.parent#\x6fpaque"), ent p "has_location" 235 (Value.builtin "_frozen_importlib.ModuleSpec.has_location#\x6fpaque"), ent p "__static_attributes__" 236 (Value.ref 23), ent p "__dict__" 238 (Value.ref 24), ent p "__weakref__" 240 (Value.ref 25), ent p "__hash__" 241 (Value.none)] 13 },
  { cls := Value.type "type", data := Data.cls { name := Str.ofString "ModuleSpec", bases := [Value.type "object"], mro := [Value.ref 22, Value.type "object"], ns := 21, qualname := Str.ofString "ModuleSpec" } },
  { cls := Value.type "tuple", data := Data.seq #[Value.str (Str.ofString "_cached") 219, Value.str (Str.ofString "_set_fileattr") 220, Value.str (Str.ofString "_uninitialized_submodules") 221, Value.str (Str.ofString "loader") 222, Value.str (Str.ofString "loader_state") 223, Value.str (Str.ofString "name") 224, Value.str (Str.ofString "origin") 225, Value.str (Str.ofString "submodule_search_locations") 226] },
  { cls := Value.type "getset_descriptor", data := Data.fields #[Value.str (Str.ofString "__dict__") 237, Value.ref 22, Value.builtin "function.__dict__", Value.builtin "function.__dict__#set"] },
  { cls := Value.type "getset_descriptor", data := Data.fields #[Value.str (Str.ofString "__weakref__") 239, Value.ref 22, Value.builtin "ExceptionGroup.__weakref__", Value.none] },
  { cls := Value.ref 22, dict := some 20 },
  { cls := Value.none, data := Data.seq #[Value.int 11 0, Value.str { cps := #[6, 247, 8, 95, 95, 110, 97, 109, 101, 95, 95, 6, 246, 4, 95, 115, 114, 101, 6, 248, 7, 95, 95, 100, 111, 99, 95, 95, 0, 6, 250, 11, 95, 95, 112, 97, 99, 107, 97, 103, 101, 95, 95, 6, 249, 0, 6, 251, 10, 95, 95, 108, 111, 97, 100, 101, 114, 95, 95, 4, 0, 0, 14, 6, 252, 8, 95, 95, 115, 112, 101, 99, 95, 95, 4, 0, 0, 26, 6, 253, 7, 99, 111, 109, 112, 105, 108, 101, 9, 12, 95, 115, 114, 101, 46, 99, 111, 109, 112, 105, 108, 101, 6, 254, 8, 116, 101, 109, 112, 108, 97, 116, 101, 9, 13, 95, 115, 114, 101, 46, 116, 101, 109, 112, 108, 97, 116, 101, 6, 255, 11, 103, 101, 116, 99, 111, 100, 101, 115, 105, 122, 101, 9, 16, 95, 115, 114, 101, 46, 103, 101, 116, 99, 111, 100, 101, 115, 105, 122, 101, 6, 256, 13, 97, 115, 99, 105, 105, 95, 105, 115, 99, 97, 115, 101, 100, 9, 18, 95, 115, 114, 101, 46, 97, 115, 99, 105, 105, 95, 105, 115, 99, 97, 115, 101, 100, 6, 257, 15, 117, 110, 105, 99, 111, 100, 101, 95, 105, 115, 99, 97, 115, 101, 100, 9, 20, 95, 115, 114, 101, 46, 117, 110, 105, 99, 111, 100, 101, 95, 105, 115, 99, 97, 115, 101, 100, 6, 258, 13, 97, 115, 99, 105, 105, 95, 116, 111, 108, 111, 119, 101, 114, 9, 18, 95, 115, 114, 101, 46, 97, 115, 99, 105, 105, 95, 116, 111, 108, 111, 119, 101, 114, 6, 259, 15, 117, 110, 105, 99, 111, 100, 101, 95, 116, 111, 108, 111, 119, 101, 114, 9, 20, 95, 115, 114, 101, 46, 117, 110, 105, 99, 111, 100, 101, 95, 116, 111, 108, 111, 119, 101, 114, 6, 261, 5, 77, 65, 71, 73, 67, 4, 260, 0, 20230612, 6, 263, 8, 67, 79, 68, 69, 83, 73, 90, 69, 4, 262, 0, 4, 6, 265, 9, 77, 65, 88, 82, 69, 80, 69, 65, 84, 4, 264, 0, 4294967295, 6, 267, 9, 77, 65, 88, 71, 82, 79, 85, 80, 83, 4, 266, 0, 1073741823, 6, 269, 9, 99, 111, 112, 121, 114, 105, 103, 104, 116, 6, 268, 53, 32, 83, 82, 69, 32, 50, 46, 50, 46, 50, 32, 67, 111, 112, 121, 114, 105, 103, 104, 116, 32, 40, 99, 41, 32, 49, 57, 57, 55, 45, 50, 48, 48, 50, 32, 98, 121, 32, 83, 101, 99, 114, 101, 116, 32, 76, 97, 98, 115, 32, 65, 66, 32] } 0, Value.bool true, Value.bool false, Value.str (Str.ofString "_sre") 271] }] }
theorem boot0 (w : World) : (fencedOpening treeTable PySem.Challenge.rw_in0026_02.row.prog w 5628).map (fun s => (s.heap, s.gens, s.drawn, s.toks)) = some (op_heap w.params, Array.mk [], {}, 276) := by
  unfold fencedOpening
  rw [PySem.W.Fast.te10274390034422433532, PySem.W.Fast.te14364793385576792824, PySem.W.Fast.te1435165496053646825, PySem.W.Fast.te14289696077712309145]
  kernel_rfl
noncomputable abbrev Part (w : World) (os : OsState) : Prop := (topFrom treeTable PySem.Challenge.rw_in0026_02.row.prog w 5628 ⟨op_heap w.params, Array.mk [], {}, 276, os⟩).map (fun s => (openSeen vw loose0 (importedModules PySem.Challenge.rw_in0026_02.row.prog.main.body) look0 true s, hook.obs s)) = some (openGood vw loose0, hook.val w)
theorem bind_some_map {α β γ : Type} (F : β → γ) (G : α → Option β) (s : α) {R : Option γ} (h : Option.map F (G s) = R) : Option.map F (Option.bind (some s) G) = R := h
theorem side_of {w : World} (h : ∀ os, Part w os) : Side w := by
  have hb := boot0 w
  unfold Side openEnds
  generalize fencedOpening treeTable PySem.Challenge.rw_in0026_02.row.prog w 5628 = o at hb ⊢
  cases o with
  | none => cases hb
  | some s =>
    have hv := Option.some.inj hb
    obtain ⟨heap, gens, drawn, toks, os⟩ := s
    have h1 := (Prod.mk.inj hv).1
    have h2 := (Prod.mk.inj (Prod.mk.inj hv).2).1
    have h3 := (Prod.mk.inj (Prod.mk.inj (Prod.mk.inj hv).2).2).1
    have h4 := (Prod.mk.inj (Prod.mk.inj (Prod.mk.inj hv).2).2).2
    dsimp only at h1 h2 h3 h4
    subst h1 h2 h3 h4
    exact bind_some_map _ _ _ (h os)
noncomputable def runT (so : Thread → Bool) (st : SharedT → Thread → Option (SharedT × Thread)) : Nat → SharedT → Thread → Option SharedT
  | 0, _, _ => none
  | n + 1, s, t => match through t with
    | true => some s
    | false => match so t with
      | false => none
      | true => match st s t with
        | some x => runT so st n x.1 x.2
        | none => none
theorem runT_spec {tb : String → Option Builtin} {p : Program} {w : World} {n₀ : Nat} {ann : Option Value} : ∀ {N : Nat} {s s' : SharedT} {t : Thread}, runT (stepOk n₀ ann) (stepT (denote tb) p w) N s t = some s' → topRun tb p w n₀ ann N s.abs t = some s'.abs
  | 0, _, _, _, h => by cases h
  | n + 1, s, s', t, h => by
    unfold runT at h
    unfold topRun
    cases ht : through t with
    | true => rw [ht] at h; cases h; rfl
    | false =>
      rw [ht] at h
      cases hk : stepOk n₀ ann t with
      | false => rw [hk] at h; cases h
      | true =>
        rw [hk] at h
        cases hs : stepT (denote tb) p w s t with
        | none => rw [hs] at h; cases h
        | some x =>
          obtain ⟨s₂, t₂⟩ := x
          rw [hs] at h
          have := stepT_spec hs
          dsimp only
          rw [this]
          exact runT_spec h
noncomputable def growT : List Obj → Nat → BT → BT
  | [], _, t => t
  | o :: l, n, t => growT l (n + 1) (t.ins n o)
noncomputable def op_tree (p : Params) : BT := growT (op_heap p).objs.toList 0 .nil
noncomputable def sT (w : World) (os : OsState) : SharedT := ⟨op_tree w.params, 28, {}, Array.mk [], {}, 276, os⟩
theorem op_abs (p : Params) : absHeap (op_tree p) 28 {} = op_heap p := by kernel_rfl
theorem op_size (p : Params) : (op_heap p).objs.size = 28 := by kernel_rfl
theorem op_ann (p : Params) : (op_heap p).nsMap mainGlobals (Str.ofString "__annotations__") = some (Value.ref 6) := by kernel_rfl
noncomputable abbrev PartT (w : World) (os : OsState) : Prop := (runT (stepOk 28 (some (Value.ref 6))) (stepT (denote treeTable) PySem.Challenge.rw_in0026_02.row.prog w) 5628 (sT w os) (topStub PySem.Challenge.rw_in0026_02.row.prog)).map (fun s => (staticsOk (importedModules PySem.Challenge.rw_in0026_02.row.prog.main.body) (op_heap w.params) s.abs.heap && namesBound PySem.Challenge.rw_in0026_02.row.prog s.abs.heap && gensDone s.abs && laidKept (op_heap w.params) s.abs.heap, openSeen vw loose0 (importedModules PySem.Challenge.rw_in0026_02.row.prog.main.body) look0 true s.abs, hook.obs s.abs)) = some (true, openGood vw loose0, hook.val w)
theorem topFrom_of {tb : String → Option Builtin} {p : Program} {w : World} {N : Nat} {H₀ : Heap} {gs : Array GenState} {d : Drawn} {k : Nat} {os : OsState} {m₀ : Nat} {ann : Option Value} {s₁ : Shared} (z1 : (H₀.isNs mainGlobals && gs.size == 0) = true) (z2 : H₀.objs.size = m₀) (z3 : H₀.nsMap mainGlobals "__annotations__" = ann)
    (r : topRun tb p w m₀ ann N ⟨H₀, gs, d, k, os⟩ (topStub p) = some s₁) (l : (staticsOk (importedModules p.main.body) H₀ s₁.heap && namesBound p s₁.heap && gensDone s₁ && laidKept H₀ s₁.heap) = true) : topFrom tb p w N ⟨H₀, gs, d, k, os⟩ = some s₁ := by
  unfold topFrom
  dsimp only
  rw [z1, z2, z3, r]
  show (match staticsOk (importedModules p.main.body) H₀ s₁.heap && namesBound p s₁.heap && gensDone s₁ && laidKept H₀ s₁.heap with | true => some s₁ | false => none) = some s₁
  rw [l]
theorem op_start (p : Params) : ((op_heap p).isNs mainGlobals && (Array.mk ([] : List GenState)).size == 0) = true := by kernel_rfl
theorem part_of {w : World} {os : OsState} (h : PartT w os) : Part w os := by
  obtain ⟨s', e, hs⟩ := Option.map_eq_some_iff.mp h
  have r := runT_spec e
  have ha : (sT w os).abs = ⟨op_heap w.params, Array.mk [], {}, 276, os⟩ := by
    unfold sT SharedT.abs
    dsimp only
    rw [op_abs]
  rw [ha] at r
  have l1 := (Prod.mk.inj hs).1
  have l2 := (Prod.mk.inj (Prod.mk.inj hs).2).1
  have l3 := (Prod.mk.inj (Prod.mk.inj hs).2).2
  have t := topFrom_of (op_start w.params) (op_size w.params) (op_ann w.params) r l1
  unfold Part
  rw [t]
  exact congrArg some (Prod.ext l2 l3)
theorem part1 (w : World) (os : OsState) : PartT ((w.withFollow "special-get-raises" false).withFollow "comprehension-iter-twice" false) os := by
  unfold PartT
  rw [PySem.W.Fast.te10156331382660048174, PySem.W.Fast.te11892475500146522536, PySem.W.Fast.te14364793385576792824, PySem.W.Fast.te6613529449190102663, PySem.W.Fast.te4187177175401517315]
  kernel_rfl
theorem part2 (w : World) (os : OsState) : PartT ((w.withFollow "special-get-raises" true).withFollow "comprehension-iter-twice" false) os := by
  unfold PartT
  rw [PySem.W.Fast.te10156331382660048174, PySem.W.Fast.te11892475500146522536, PySem.W.Fast.te14364793385576792824, PySem.W.Fast.te6613529449190102663, PySem.W.Fast.te4187177175401517315]
  kernel_rfl
theorem part3 (w : World) (os : OsState) : PartT ((w.withFollow "special-get-raises" false).withFollow "comprehension-iter-twice" true) os := by
  unfold PartT
  rw [PySem.W.Fast.te10156331382660048174, PySem.W.Fast.te11892475500146522536, PySem.W.Fast.te14364793385576792824, PySem.W.Fast.te6613529449190102663, PySem.W.Fast.te4187177175401517315]
  kernel_rfl
theorem part4 (w : World) (os : OsState) : PartT ((w.withFollow "special-get-raises" true).withFollow "comprehension-iter-twice" true) os := by
  unfold PartT
  rw [PySem.W.Fast.te10156331382660048174, PySem.W.Fast.te11892475500146522536, PySem.W.Fast.te14364793385576792824, PySem.W.Fast.te6613529449190102663, PySem.W.Fast.te4187177175401517315]
  kernel_rfl
theorem left0 : ∀ w, Side w := byRow2 "comprehension-iter-twice" (byRow2 "special-get-raises" (fun w => side_of fun os => part_of (part1 w os)) (fun w => side_of fun os => part_of (part2 w os))) (byRow2 "special-get-raises" (fun w => side_of fun os => part_of (part3 w os)) (fun w => side_of fun os => part_of (part4 w os)))
noncomputable def hdw := fun walk => hd (And.intro left0 walk)
end
open PySem.Calls PySem.Spec
set_option maxHeartbeats 4000000
set_option linter.all false
local macro_rules | `(tactic| walk_at $s:str) => `(tactic| k_extra $s)
local macro_rules | `(tactic| k_in) => `(tactic| exact Frag.In.keeps (by k_asm) (Fr.keep (by k_asm)))
local macro_rules | `(tactic| size_fits) => `(tactic| first | with_reducible assumption | (simp only [PySem.sizeLine_eq]; omega) | (simp only [PySem.sizeOk, PySem.sizeLine_eq, List.size_toArray, List.length_cons, List.length_nil, List.length_append, Array.size_append, Array.size_push, Array.size_empty, List.length_map, List.length_replicate]; omega) | ((try simp only [PySem.Str.empty_append]); (first | (size_lits; try str_facts) | str_facts); (try simp only [PySem.sizeLine_eq] at *); omega))
theorem fillOne (w : World) (h : Heap) : (hd.heap_1 w.params).In h → PySem.Challenge.rw_in0026_02 = PySem.Challenge.rw_in0026_02 := by
  k_fill
  exact fun _ => rfl
theorem om_toNat1 (n : Nat) : ((n : Int) - 1).toNat = n - 1 := Int.toNat_sub n 1
theorem om_sub1 {n k : Nat} (h : k < n) : n - (k + 1) < n - k := Nat.sub_lt_sub_left h (Nat.lt_succ_self k)
theorem om_sub {n k k' : Nat} (h : k < n) (h2 : k < k') : n - k' < n - k := Nat.sub_lt_sub_left h h2
theorem om_from (n m : Nat) : fromIndex n (m : Int) = m := by
  unfold fromIndex
  rw [if_neg (Int.not_lt.mpr (Int.natCast_nonneg m)), Int.max_eq_right (Int.natCast_nonneg m)]
  rfl
theorem om_d9 : ∀ d, d < 9 → d = 0 ∨ d = 1 ∨ d = 2 ∨ d = 3 ∨ d = 4 ∨ d = 5 ∨ d = 6 ∨ d = 7 ∨ d = 8 := by decide
theorem om_succ_sub {i y hi : Nat} (h : i + y ≤ hi) : hi + 1 - i = (hi - i) + 1 := Nat.succ_sub (Nat.le_trans (Nat.le_add_right i y) h)
theorem om_max {a n : Nat} (h : a ≤ n) : max (0 : Int) (min (if (a : Int) < 0 then (a : Int) + (n : Int) else (a : Int)) (n : Int)) = (a : Int) := by
  rw [if_neg (Int.not_lt.mpr (Int.natCast_nonneg a)), Int.min_eq_left (Int.ofNat_le.mpr h), Int.max_eq_right (Int.natCast_nonneg a)]
theorem om_max2 {a n : Nat} (h : a ≤ n) : (max (a : Int) (n : Int)).toNat = n := by
  rw [Int.max_eq_right (Int.ofNat_le.mpr h)]; rfl
theorem om_d10 : ∀ d, d < 10 → d = 0 ∨ d = 1 ∨ d = 2 ∨ d = 3 ∨ d = 4 ∨ d = 5 ∨ d = 6 ∨ d = 7 ∨ d = 8 ∨ d = 9 := by decide
theorem om_d3 : ∀ d, d < 3 → d = 0 ∨ d = 1 ∨ d = 2 := by decide
theorem om_last (n : Nat) : PySem.seqIndex? (-1) (n + 1) = some n := by
  have e : (-1 : Int) + ((n + 1 : Nat) : Int) = (n : Int) := by
    rw [Int.natCast_succ, Int.add_comm (n : Int) 1, ← Int.add_assoc]; exact Int.zero_add _
  have l : ((-1 : Int) < 0) = True := eq_true (by decide)
  unfold PySem.seqIndex?
  simp only [l, if_true, e, Int.natCast_nonneg, Int.ofNat_lt.mpr (Nat.lt_succ_self n), decide_true, Bool.and_true, Int.toNat_natCast]
theorem om_last1 {n : Nat} (h : 0 < n) : PySem.seqIndex? (-1) n = some (n - 1) := by
  cases n with
  | zero => exact absurd h (Nat.lt_irrefl _)
  | succ m => exact om_last m
theorem om_sm {a b c d n : Nat} (e1 : a = b) (e2 : b + c = d) (e3 : d ≤ n) (h : n ≤ 300) : a ≤ 1000 := by
  rw [e1]; exact Nat.le_trans (Nat.le.intro e2) (Nat.le_trans e3 (Nat.le_trans h (by decide)))
theorem om_sm2 {a b c d e n : Nat} (e1 : a = b) (e2 : b + c = d) (e3 : d + e = n) (h : n ≤ 300) : a ≤ 1000 := om_sm e1 e2 (Nat.le.intro e3) h
theorem om_sm3 {a b c d n : Nat} (e1 : a = b) (e2 : b + 1 + 1 + c = d) (e3 : d ≤ n) (h : n ≤ 300) : a + 1 ≤ 1000 := by
  rw [e1]; exact Nat.le_trans (Nat.le_trans (Nat.le_succ _) (Nat.le.intro e2)) (Nat.le_trans e3 (Nat.le_trans h (by decide)))
theorem om_sm4 {a b c d r : Nat} (e1 : a = b) (e2 : b ≤ c) (e3 : d = c + r) (h : d ≤ 50) : a ≤ 1000 := by
  rw [e1]; exact Nat.le_trans e2 (Nat.le_trans (Nat.le.intro e3.symm) (Nat.le_trans h (by decide)))
theorem om_u {u a b c L : Nat} (hu : u + c < L) (h : a + b ≤ c) : u + a + b < L := by
  rw [Nat.add_assoc]; exact Nat.lt_of_le_of_lt (Nat.add_le_add_left h u) hu
theorem om_w {u b c L : Nat} (hu : u + c < L) (h : b ≤ c) : u + b < L := Nat.lt_of_le_of_lt (Nat.add_le_add_left h u) hu
theorem om_0 {u c L : Nat} (h : u + c < L) : u < L := Nat.lt_of_le_of_lt (Nat.le_add_right u c) h
theorem om_s1 {a b A B : Nat} (z1 : a = A) (z3 : b = B) (r1 : A ≤ 3) (r3 : B ≤ 1) : a + b ≤ 16777216 := by
  rw [z1, z3]; exact Nat.le_trans (Nat.add_le_add r1 r3) (by decide)
theorem om_s2 {a b A B : Nat} (z1 : a = A) (z3 : b = B) (r1 : A ≤ 3) (r3 : B ≤ 1) : a + b + 1 ≤ 16777216 := by
  rw [z1, z3]; exact Nat.le_trans (Nat.add_le_add_right (Nat.add_le_add r1 r3) 1) (by decide)
theorem om_s3 {a b c A B C : Nat} (z1 : a = A) (z3 : b = B) (z2 : c = C) (r1 : A ≤ 3) (r3 : B ≤ 1) (r2 : C ≤ 3) : a + b + 1 + c ≤ 16777216 := by
  rw [z1, z3, z2]; exact Nat.le_trans (Nat.add_le_add (Nat.add_le_add_right (Nat.add_le_add r1 r3) 1) r2) (by decide)
theorem om_s4 {s n : Nat} (h1 : s ≤ 38 * n) (h : n ≤ 9) : s + n * 2 ≤ 16777216 :=
  Nat.le_trans (Nat.add_le_add (Nat.le_trans h1 (Nat.mul_le_mul_left 38 h)) (Nat.mul_le_mul_right 2 h)) (by decide)
example : True := by
  k_with_none
  trivial
noncomputable abbrev PR : Program := PySem.Challenge.rw_in0026_02.row.prog
noncomputable abbrev KK (w : World) : Frag := hd.heap_1 w.params

theorem fill (w : World) (h : Heap) : (hd.heap_1 w.params).In h → PySem.Challenge.rw_in0026_02 = PySem.Challenge.rw_in0026_02 := by
  k_fill
  exact fun _ => rfl

theorem hide_stays {g h : Heap} {l : List Addr} (st : g.StaysIn h) (hl : ∀ a ∈ l, g.get? a = none) : g.StaysIn (hideAll h l) := fun b o e =>
  hideAll_get l (st b o e) fun q => by rw [hl b q] at e; cases e

theorem fresh_of {h g' : Heap} {l : List Addr} {t : Addr} (kp : ∀ b o, h.get? b = some o → b ∉ l → g'.get? b = some o) (hn : g'.get? t = none) (ht : t ∉ l) : h.get? t = none := by
  cases q : h.get? t with
  | none => rfl
  | some o => rw [kp t o q ht] at hn; cases hn

section
variable {w : World} {A : Around} {s : Shared} {g : Heap} {led : List (Addr × Obj)} {R : Result → Shared → Prop} {K : Frag}
  {name qual : Str} {params : Arguments} {body : List Stmt} {scope : Scope} {dV kV doc pm cdv ct oc : Value} {an od : Option Addr} {osl : Array (Option Value)} {f : Addr} {args : Args} {binds : List (Str × Value)} {cl : List (Str × Addr)}
  {p : Program} {loose : List Str} {mg mb : Str → Option Value}
theorem enter (X : K.In g) (T : TopRead p loose mg mb g) (st : g.StaysIn s.heap) (hl : ∀ q ∈ led, s.heap.get? q.1 = some q.2 ∧ g.get? q.1 = none)
    (ho : K.lookup f = some ⟨oc, od, .func (fnX name qual params body scope cl dV kV doc pm an cdv ct), osl⟩) (hcd : codeIn K cdv qual = true) (hroom : A.depth < recursionLimit)
    (hbind : BindsTo s (fnX name qual params body scope cl dV kV doc pm an cdv ct) args binds) (hloc : (binds.all fun x => decide (scope.names.lookup x.1 = some .local)) = true)
    (h : ∀ g' h₁, (∀ b o, s.heap.get? b = some o → b ∉ led.map (·.1) → g'.get? b = some o) → g.StaysIn g' → (∀ b o, s.heap.get? b = some o → h₁.get? b = some o) → Fr g' s.heap.objs.size h₁ (fun y => binds.reverse.lookup y) → News g' s.heap.objs.size h₁ led → K.In g' → TopRead p loose mg mb g' →
      wpAny (model PR w) (A.deeper (envX qual scope s.heap.objs.size f cdv cl)) (execs body (envX qual scope s.heap.objs.size f cdv cl))
        (fun fl s' => R (.ok (.ret (match fl with | .ret v => v | _ => .none))) s') (fun _ _ => False)
        { s with heap := h₁, toks := s.toks + binds.length })
    (hcell : ∀ x ∈ scope.names, x.2 ≠ .cell) (hco : scope.isCoroutine = false) (hgen : scope.isGenerator = false) (hk : scope.kind = .function) : codeAny (model PR w) A (.call (.ref f) args) R s := by
  have hn : ∀ a ∈ led.map (·.1), g.get? a = none := fun a ha => by
    obtain ⟨q, hq, rfl⟩ := List.mem_map.mp ha
    exact (hl q hq).2
  have st' := hide_stays st hn
  refine codeAny_call_def (fd := fnX name qual params body scope cl dV kV doc pm an cdv ct) (body := body) (binds := binds) hroom ((X.keeps st) _ _ ho) rfl (T.nolimit.keeps st) (codeRec_of (X.keeps st) hcd) rfl hbind hcell (locs hloc) (fun h₁ hns hk₁ => ?_) hco hgen hk
  refine wpAny_mono (h (hideAll s.heap (led.map (·.1))) h₁ (fun b o e hb => hideAll_get _ e hb) st' hk₁ ⟨hns, fun b o e => hk₁ b o (of_hideAll _ e), Nat.le_of_eq (hideAll_size _ _)⟩
    (fun q hq => ⟨hk₁ _ _ (hl q hq).1, Nat.ne_of_lt (Heap.lt_size (hl q hq).1), hideAll_none _ (List.mem_map_of_mem hq)⟩) (X.keeps (fun b o e => st' b o e)) (T.keeps (fun b o e => st' b o e))) (fun fl s' z => z) fun _ _ z => z.elim
end


section
variable {prog : Program} {w : World} {A : Around} {E : Value → Shared → Prop} {s : Shared}
theorem call_sub {id owner n : String} {b : Builtin} {self : Value} {rest : List Value} {Q : Value → Shared → Prop}
    (hk : builtinKind id = some .method ∨ builtinKind id = some .slot) (hs : splitId id = some (owner, n)) (hp : plainId id = true) (hb : entryFor table id = some b) (ha : argsOk id ⟨self :: rest, []⟩)
    (hi : Looks (model prog w) s.heap (isInstance self (.type owner)) true)
    (hc : wpAny (model prog w) A.in1 (b ⟨self :: rest, []⟩) (fun fin s' => ∃ v, fin = .done (.ret v) ∧ Q v s') E s) : wpAny (model prog w) A (call (.builtin id) (self :: rest)) Q E s := by
  refine wpAny_call (codeAny_call_builtin hp hb ?_)
  have hfin := wpAny_mono hc (Q' := fun fin s' => match fin with
      | .done f => (match (Except.ok f : Result) with | .ok (.ret v) => Q v s' | .ok _ => False | .error e => E e s')
      | .again c' => c'.quiet = true ∧ codeAny (model prog w) A c' (fun r s' => match r with | .ok (.ret v) => Q v s' | .ok _ => False | .error e => E e s') s')
    (fun fin s' h' => by obtain ⟨v, rfl, hv⟩ := h'; exact hv) fun _ _ h' => h'
  rcases hk with hk | hk
  all_goals
    simp only [checkBuiltinCall, hk, hs]
    refine wpAny_bind (hi.here ?_)
    simp only [Bool.not_true, Bool.false_eq_true, if_false]
    cases hsig : Manifest.signature? id with
    | none => exact wpAny_pure hfin
    | some sig =>
      simp only [argsOk, hsig] at ha
      have h2 : Bind.checkArgs id sig ⟨self :: rest, []⟩ = pure () := ha
      show wpAny _ A.in1 (Bind.checkArgs id sig ⟨self :: rest, []⟩) _ _ s
      rw [h2]; exact wpAny_pure hfin
end

noncomputable abbrev accObj (d : Addr) (its : Array Value) (n : Nat) : Obj := ⟨.ref 195, some d, .seq its n, #[]⟩
noncomputable abbrev accDict (hs : Int) (tn ti : Tok) (ne : Nat) : Obj := dictOf [⟨hs, .str "_initial_size" tn, .int 0 ti⟩] ne
noncomputable abbrev tupObj (its : List Value) : Obj := { cls := .type "tuple", data := .seq its.toArray }

section
variable {M : Model} {A : Around} {E : Value → Shared → Prop} {s : Shared} {K : Frag} {x C dx L : Addr} {h₀ : Heap} {m : Str → Option Value} {news news' : List (Addr × Obj)} {es : List DictEntry} {n : Nat} {name : Str} {ox : Obj}

theorem instL {h : Heap} {its : Array Value} {ni : Nat} {od : Obj} {sl : Array (Option Value)} (N : News h₀ L h news) (h1 : (x, (⟨.ref C, some dx, .seq its ni, sl⟩ : Obj)) ∈ news) (h2 : (dx, od) ∈ news) :
    InstAt h x ⟨.ref C, some dx, .seq its ni, sl⟩ C (some od) := ⟨(N _ h1).1, rfl, rfl, (N _ h2).1⟩

noncomputable def fnLike (K : Frag) (f : Value) : Bool := typeIn K f == some (.type "function") || typeIn K f == some (.type "method_descriptor") || typeIn K f == some (.type "wrapper_descriptor")

theorem canon_list_ga : (Manifest.canonical "list.__getattribute__" != "object.__getattribute__") = false := by decide +kernel

theorem method_sub {pl : Sem Bool} {f : Value} {Q : Value × List Value → Shared → Prop} (F : Fr h₀ L s.heap m) (X₀ : K.In h₀) (I : InstAt s.heap x ox C (some (dictOf es n)))
    (hga : findIn K (.ref C) "__getattribute__" = some (some (.builtin "list.__getattribute__"))) (hk : findIn K (.ref C) "__getattr__" = some none)
    (hf : findIn K (.ref C) name = some (some f)) (ht : fnLike K f = true) (hl : getL name es = some none) (h : Q (f, [.ref x]) s) : wpAny M A (getMethod (.ref x) name pl) Q E s := by
  have X := X₀.keeps F.keep
  obtain ⟨ft, hft, hne⟩ : ∃ ft, typeIn K f = some ft ∧ (ft != .type "function" && ft != .type "method_descriptor" && ft != .type "wrapper_descriptor") = false := by
    simp only [fnLike, Bool.or_eq_true, beq_iff_eq] at ht
    rcases ht with (ht | ht) | ht
    · exact ⟨_, ht, by decide⟩
    · exact ⟨_, ht, by decide⟩
    · exact ⟨_, ht, by decide⟩
  unfold getMethod specialOf
  refine wpAny_bind (wpAny_bind (I.type.here ((looks_findIn X hga).here ?_)))
  dsimp only
  rw [canon_list_ga, if_neg (by decide)]
  refine wpAny_bind (wpAny_bind (I.type.here ((looks_findIn X hk).here ?_)))
  refine wpAny_bind (wpAny_bind (I.type.here ((looks_findIn X hf).here (wpAny_bind ((looks_typeIn X hft).here ?_)))))
  rw [hne, if_neg (by decide)]
  refine wpAny_bind (wpAny_loadPart I.at_ ?_)
  have hd := I.dict
  cases e : ox.dict with
  | none => exact wpAny_bind (wpAny_rule (wpAny_pure h))
  | some dx =>
    rw [e] at hd
    refine wpAny_bind (wpAny_bind (wpAny_loadPart hd ?_))
    have hl' : lookIn name (dictOf es n) = some none := by rw [lookIn_dict, hl]
    rw [nsLook_of hl']
    refine wpAny_pure ?_
    exact wpAny_bind (wpAny_rule (wpAny_pure h))

theorem append_sub {prog : Program} {w : World} {its : Array Value} {ni : Nat} {d : Addr} {v : Value} {Q : Value → Shared → Prop} (F : Fr h₀ L s.heap m) (X₀ : K.In h₀) (N : News h₀ L s.heap news) (hm : subIn K (.ref 195) (.type "list") = some true)
    (U : Upd x (accObj d its ni) (accObj d (its.push v) (ni + 1)) news news') (hz : its.size ≤ 1000)
    (h : ∀ h', Fr h₀ L h' m → News h₀ L h' news' → Q .none { s with heap := h' }) :
    wpAny (model prog w) A (call (.builtin "list.append") [.ref x, v]) Q E s := by
  have X := X₀.keeps F.keep
  obtain ⟨pre, post, rfl, rfl, a, b⟩ := U.split
  have z := N (x, accObj d its ni) (List.mem_append.mpr (.inr (.head _)))
  have hi : Looks (model prog w) s.heap (isInstance (.ref x) (.type "list")) true := ((Looks.ld (part := none) z.1).andThen (Looks.now (a := Value.ref 195))).andThen (looks_subIn X hm)
  refine call_sub (id := "list.append") (owner := "list") (n := "append") (.inl (by decide +kernel)) (by decide +kernel) (by decide +kernel) entry_list_append (args_list_append _ _) hi ?_
  show wpAny _ _ (updateSeq x (·.push v) >>= fun _ => ret .none) _ _ s
  refine wpAny_bind ?_
  have e : Obj.mapSeq (·.push v) (accObj d its ni) = accObj d (its.push v) (ni + 1) := by
    unfold Obj.mapSeq accObj
    simp
  refine wpAny_updateSeq z.1 rfl (wpAny_pure ⟨.none, rfl, ?_⟩) (hz := by rw [sizeLine_eq]; omega) (_hz' := by rw [sizeLine_eq, Array.size_push]; omega)
  obtain ⟨F', N'⟩ := news_upd F N a b e rfl
  exact h _ F' N'
end
local macro_rules | `(tactic| k_inst) => `(tactic| (refine' instL ?N ?h1 ?h2; (case N => k_asm); (case h1 => k_mem); (case h2 => k_mem)))
example : True := by
  k_with "getMethod ref" =>
    (k_here; k_dflt (refine' method_sub ?qk1z ?qk2z ?qk3z ?qk4z ?qk5z ?qk6z ?qk7z ?qk8z ?_; (case qk1z => k_asm); (case qk2z => k_asm); (case qk3z => k_inst); (case qk4z => k_is); (case qk5z => k_is); (case qk6z => k_is); (case qk7z => kernel_rfl); (case qk8z => k_get); k_whole))
  k_with "call builtin:list.append" =>
    (k_here; (with_reducible show wpAny _ _ (call (Value.builtin _) [Value.ref _, _]) _ _ _); k_dflt (refine' append_sub ?qk1z ?qk2z ?qk3z ?qk4z ?qk5z ?qk6z ?_; (case qk1z => k_asm); (case qk2z => k_asm); (case qk3z => k_asm); (case qk4z => k_is); (case qk5z => k_upd); (case qk6z => first | assumption | omega); k_whole); intro _ _ _; (try k_sweep))
  k_with "go" =>
    repeat' (first | (k_unfold; (try dsimp only)) | walk1 | (dsimp only; walk1) | fail "no step")
  trivial


theorem push_code {w : World} {A : Around} {s : Shared} {g : Heap} {p : Program} {loose : List Str} {mg mb : Str → Option Value} {acc d : Addr} {its : Array Value} {n : Nat} {a b : Value} {Q E : Value → Shared → Prop} {hs : Int} {tn ti : Tok} {ne : Nat}
    (X : (hd.heap_1 w.params).In g) (T : TopRead p loose mg mb g) (st : g.StaysIn s.heap) (ha : s.heap.get? acc = some (accObj d its n)) (hg : g.get? acc = none) (hdd : s.heap.get? d = some (accDict hs tn ti ne)) (hgd : g.get? d = none)
    (hr : A.depth < recursionLimit) (hz : its.size ≤ 1000)
    (h : ∀ t h' tk, s.heap.get? t = none → h'.get? t = some (tupObj [a, b]) → h'.get? acc = some (accObj d (its.push (.ref t)) (n + 1)) → (∀ b o, b ≠ acc → s.heap.get? b = some o → h'.get? b = some o) → Q .none { s with heap := h', toks := tk }) :
    codeAny (model PR w) A (.call (.ref 139) ⟨[.ref acc, a, b], []⟩) (fun r s' => match r with | .ok (.ret v) => Q v s' | .ok _ => False | .error e => E e s') s := by
  have hne : @Ne Nat acc d := fun q => by rw [q, hdd] at ha; cases ha
  refine' enter (binds := [("self", .ref acc), ("fws", a), ("string", b)]) (led := [(acc, accObj d its n), (d, accDict hs tn ti ne)]) X T st ?hl ?ho ?hcd hr ?hb ?hloc ?_ ?hcell ?hco ?hgen ?hk
  case hl => simp only [List.forall_mem_cons, ha, hg, hdd, hgd, and_self, List.not_mem_nil, false_imp_iff, implies_true]
  case ho => k_is
  case hcd => k_is
  case hb => exact BindsTo.of_eq rfl
  case hloc => rfl
  case hcell => decide
  case hco => rfl
  case hgen => rfl
  case hk => rfl
  intro g' h₁ kp st' kp₁ F' N' X' T'
  k_extra "go"
  rename Fr _ _ _ _ => F
  rename News _ _ _ _ => N
  rename_i t _ lt _
  refine h t _ _ ?_ (N _ (List.Mem.head _)).1 (N _ (List.Mem.tail _ (List.Mem.head _))).1 (fun b o hb hbo => ?_)
  · exact fresh_of kp (N _ (List.Mem.head _)).2.2 (by simp only [List.map_cons, List.map_nil, List.mem_cons, List.not_mem_nil, or_false, not_or]; exact ⟨Nat.ne_of_gt lt.1, Nat.ne_of_gt lt.2⟩)
  · by_cases q : b = d
    · subst q; rw [hdd] at hbo; cases hbo; exact (N _ (List.Mem.tail _ (List.Mem.tail _ (List.Mem.head _)))).1
    · exact F.keep _ _ (kp _ _ hbo (by simp [hb, q]))
theorem push_spec {w : World} {A : Around} {s : Shared} {g : Heap} {p : Program} {loose : List Str} {mg mb : Str → Option Value} {acc d : Addr} {its : Array Value} {n : Nat} {a b : Value} {Q E : Value → Shared → Prop} {hs : Int} {tn ti : Tok} {ne : Nat}
    (X : (hd.heap_1 w.params).In g) (T : TopRead p loose mg mb g) (st : g.StaysIn s.heap) (ha : s.heap.get? acc = some (accObj d its n)) (hg : g.get? acc = none) (hdd : s.heap.get? d = some (accDict hs tn ti ne)) (hgd : g.get? d = none)
    (hr : A.depth < recursionLimit) (hz : its.size ≤ 1000)
    (h : ∀ t h' tk, s.heap.get? t = none → h'.get? t = some (tupObj [a, b]) → h'.get? acc = some (accObj d (its.push (.ref t)) (n + 1)) → (∀ b o, b ≠ acc → s.heap.get? b = some o → h'.get? b = some o) → Q .none { s with heap := h', toks := tk }) :
    wpAny (model PR w) A (call (.ref 139) [.ref acc, a, b]) Q E s :=
  wpAny_call (push_code X T st ha hg hdd hgd hr hz h)
theorem entry_wdget : entryFor table "wrapper_descriptor.__get__" = some Builtin.«wrapper_descriptor.__get__» := entryFor_of_tree (by kernel_rfl)
theorem entry_mdget : entryFor table "method_descriptor.__get__" = some Builtin.«method_descriptor.__get__» := entryFor_of_tree (by kernel_rfl)
section
variable {prog : Program} {w : World} {A : Around} {E : Value → Shared → Prop} {K : Frag} {h : Heap} {g : Array GenState} {d : Drawn} {t : Nat} {os : OsState}
set_option pp.maxSteps 3000 in
theorem wdget {id : String} {x C : Addr} {ox : Obj} {Q : Value → Shared → Prop} (X : K.In h) (hx : h.get? x = some ox) (hc : ox.cls = .ref C) (hid : id = "list.__len__" ∨ id = "list.__init__") (hs : subIn K (.ref C) (.type "list") = some true)
    (hq : Q (.ref h.objs.size) ⟨h.push { cls := .type "method-wrapper", data := .fields #[.builtin id, .ref x] }, g, d, t, os⟩) :
    wpAny (model prog w) A (call (.builtin "wrapper_descriptor.__get__") [.builtin id, .ref x, .ref C]) Q E ⟨h, g, d, t, os⟩ := by
  have hi : Looks (model prog w) h (isInstance (.ref x) (.type "list")) true := ((Looks.ld (part := none) hx).andThen (by rw [hc]; exact Looks.now (a := Value.ref C))).andThen (looks_subIn X hs)
  have hwd : Looks (model prog w) h (isInstance (.builtin id) (.type "wrapper_descriptor")) true := Looks.of_pure (by rcases hid with rfl | rfl <;> kernel_rfl)
  refine call_sub (id := "wrapper_descriptor.__get__") (owner := "wrapper_descriptor") (n := "__get__") (.inr (by decide +kernel)) (by decide +kernel) (by decide +kernel) entry_wdget (by rcases hid with rfl | rfl <;> (unfold argsOk; kernel_rfl)) hwd ?_
  unfold Builtin.«wrapper_descriptor.__get__»
  have ow1 : ".".intercalate ("list.__len__".cutAt '.').dropLast = "list" := by decide +kernel
  have ow2 : ".".intercalate ("list.__init__".cutAt '.').dropLast = "list" := by decide +kernel
  rcases hid with rfl | rfl
  all_goals
    repeat (first | ((with_reducible show wpAny _ _ (isInstance (Value.ref _) (Value.type _)) _ _ _); first | rw [ow1] | rw [ow2] | skip; refine Looks.at hi ?_) | lk)
    exact ⟨_, rfl, hq⟩
theorem mdget {id : String} {x C : Addr} {ox : Obj} {Q : Value → Shared → Prop} (X : K.In h) (hx : h.get? x = some ox) (hc : ox.cls = .ref C) (hid : id = "list.pop") (hs : subIn K (.ref C) (.type "list") = some true)
    (hq : Q (.ref h.objs.size) ⟨h.push { cls := .type "builtin_function_or_method", data := .fields #[.builtin id, .ref x] }, g, d, t, os⟩) :
    wpAny (model prog w) A (call (.builtin "method_descriptor.__get__") [.builtin id, .ref x, .ref C]) Q E ⟨h, g, d, t, os⟩ := by
  have hi : Looks (model prog w) h (isInstance (.ref x) (.type "list")) true := ((Looks.ld (part := none) hx).andThen (by rw [hc]; exact Looks.now (a := Value.ref C))).andThen (looks_subIn X hs)
  have hwd : Looks (model prog w) h (isInstance (.builtin id) (.type "method_descriptor")) true := Looks.of_pure (by rcases hid with rfl; kernel_rfl)
  refine call_sub (id := "method_descriptor.__get__") (owner := "method_descriptor") (n := "__get__") (.inr (by decide +kernel)) (by decide +kernel) (by decide +kernel) entry_mdget (by rcases hid with rfl; (unfold argsOk; kernel_rfl)) hwd ?_
  unfold Builtin.«method_descriptor.__get__»
  have ow1 : ".".intercalate ("list.pop".cutAt '.').dropLast = "list" := by decide +kernel
  have nt : Manifest.toldItsClass.contains "list.pop" = false := by decide +kernel
  rcases hid with rfl
  all_goals
    repeat (first | ((with_reducible show wpAny _ _ (isInstance (Value.ref _) (Value.type _)) _ _ _); first | rw [ow1] | skip; refine Looks.at hi ?_) | (rw [nt]; rw [if_neg (by decide)]) | lk)
    exact ⟨_, rfl, hq⟩

theorem super_ga_bi {so D x C : Addr} {id T gid : String} {l₀ l : List Value} {name : Str} {tk : Tok} {q : Addr} {h' : Heap} {Q : Fin → Shared → Prop}
    (hso : h.get? so = some { cls := .type "super", dict := none, data := .fields #[.ref D, .ref x, .ref C], slots := #[] }) (hno : Looks (model prog w) h (opaqueClassAbove (.ref C)) none)
    (hC : Looks (model prog w) h (mroOf (.ref C)) l₀) (hl : (l₀.dropWhile (· != .ref D)).drop 1 = l) (X : K.In h)
    (hf : alongIn K name l = some (some (.builtin id))) (hT : Looks (model prog w) h (typeOf (.builtin id)) (.type T)) (hg : Looks (model prog w) h (typeLookup (.type T) "__get__") (some (.builtin gid))) (hxC : x ≠ C) (hn : (name == ("__class__" : Str)) = false)
    (hget : ∀ {A : Around} {E : Value → Shared → Prop} {Q' : Value → Shared → Prop}, Q' (.ref q) ⟨h', g, d, t, os⟩ → wpAny (model prog w) A (call (.builtin gid) [.builtin id, .ref x, .ref C]) Q' E ⟨h, g, d, t, os⟩)
    (hq : Q (.done (.ret (.ref q))) ⟨h', g, d, t, os⟩) :
    wpAny (model prog w) A (Builtin.«super.__getattribute__» ⟨[.ref so, .str name tk], []⟩) Q E ⟨h, g, d, t, os⟩ := by
  have hne : (Value.ref x == Value.ref C) = false := by simp [hxC]
  have hdt : ({ cls := .type "super", dict := none, data := .fields #[.ref D, .ref x, .ref C], slots := #[] } : Obj).data = .fields #[.ref D, .ref x, .ref C] := rfl
  have f0 : (#[.ref D, .ref x, .ref C] : Array Value)[0]? = some (.ref D) := rfl
  have f1 : (#[.ref D, .ref x, .ref C] : Array Value)[1]? = some (.ref x) := rfl
  have f2 : (#[.ref D, .ref x, .ref C] : Array Value)[2]? = some (.ref C) := rfl
  unfold Builtin.«super.__getattribute__»
  repeat (first
    | (with_reducible refine wpAny_field hso hdt f0 ?_) | (with_reducible refine wpAny_field hso hdt f1 ?_) | (with_reducible refine wpAny_field hso hdt f2 ?_)
    | (with_reducible refine ks_wpAny_notOpaque hno ?_)
    | (with_reducible refine Looks.at hC ?_; rw [hl])
    | (refine ks_forIn_along X (fun _ _ => rfl) rfl ?_ hf)
    | (with_reducible refine Looks.at hT ?_)
    | (with_reducible refine Looks.at hg ?_)
    | (with_reducible refine hget ?_)
    | (simp only [hn, hne, Bool.or_false, Bool.false_eq_true, if_false])
    | wp_step
    | dsimp only)
  all_goals exact hq

theorem getMethod_super_bi {so D x C : Addr} {id T gid : String} {l₀ l : List Value} {name : Str} {pl : Sem Bool} {q : Addr} {h' : Heap} {Q : Value × List Value → Shared → Prop}
    (hso : h.get? so = some { cls := .type "super", dict := none, data := .fields #[.ref D, .ref x, .ref C], slots := #[] }) (hno : Looks (model prog w) h (opaqueClassAbove (.ref C)) none)
    (hC : Looks (model prog w) h (mroOf (.ref C)) l₀) (hl : (l₀.dropWhile (· != .ref D)).drop 1 = l) (X : K.In h)
    (hf : alongIn K name l = some (some (.builtin id))) (hT : Looks (model prog w) h (typeOf (.builtin id)) (.type T)) (hg : Looks (model prog w) h (typeLookup (.type T) "__get__") (some (.builtin gid))) (hxC : x ≠ C) (hn : (name == ("__class__" : Str)) = false)
    (hget : ∀ {t : Nat} {A : Around} {E : Value → Shared → Prop} {Q' : Value → Shared → Prop}, Q' (.ref q) ⟨h', g, d, t, os⟩ → wpAny (model prog w) A (call (.builtin gid) [.builtin id, .ref x, .ref C]) Q' E ⟨h, g, d, t, os⟩)
    (hq : Q (.ref q, []) ⟨h', g, d, t + 1, os⟩) :
    wpAny (model prog w) A (getMethod (.ref so) name pl) Q E ⟨h, g, d, t, os⟩ := by
  have hlk := F.ks_slot_super_ga.lookup
  have hcan := F.ks_canon_super_ga
  have hT' : ∀ t', (⟨h, g, d, t', os⟩ : Shared).TypeIs (.ref so) "super" := fun _ => ⟨_, hso, rfl⟩
  unfold getMethod
  refine wpAny_bind (wpAny_specialOf (hT' _) hlk ?_)
  show wpAny _ _ (if (Manifest.canonical "super.__getattribute__" != "object.__getattribute__") = true then _ else _) _ _ _
  rw [if_pos hcan]
  unfold getAttr getAttrBy
  refine wpAny_bind (wpAny_bind (wpAny_mkText (wpAny_holding (wpAny_bind (wpAny_typeOf (hT' _) (wpAny_bind (wpAny_of_eq hlk ?_)))))))
  show wpAny _ _ (getAttrByItsOwn (.ref so) (.str name t) (.type "super") (.builtin "super.__getattribute__") true false) _ _ _
  unfold getAttrByItsOwn hookBefore callGetattribute boundAndCalled
  refine wpAny_bind (wpAny_of_eq (show (if onTheHeap (.type "super") then typeLookup (.type "super") "__getattr__" else pure none) = pure none from rfl) ?_)
  refine wpAny_bind (wpAny_attempt (wpAny_holding ?_))
  show wpAny _ _ (bindSpecial (.builtin "super.__getattribute__") (.ref so) >>= _) _ _ _
  refine wpAny_bind (wpAny_of_eq (F.ks_slot_super_ga.bind _) ?_)
  refine wpAny_mono (Q := fun u s' => u = .ref q ∧ s' = ⟨h', g, d, t + 1, os⟩) (E := fun _ _ => False)
    (wpAny_call_entry F.ks_slot_super_ga (hT' _) F.ks_entry_super_ga (super_ga_bi hso hno hC hl X hf hT hg hxC hn hget ⟨_, rfl, rfl, rfl⟩) (F.ks_gaArgs_super _ _)) (fun u s' hv => ?_) fun _ _ z => z.elim
  obtain ⟨rfl, rfl⟩ := hv
  exact wpAny_pure (wpAny_pure hq)
end
section
variable {prog : Program} {w : World} {A : Around} {E : Value → Shared → Prop} {s : Shared}
theorem call_bound {q x : Addr} {W id : String} {b : Builtin} {rest : List Value} {Q : Value → Shared → Prop} (hW : W = "method-wrapper" ∨ W = "builtin_function_or_method")
    (hq : s.heap.get? q = some { cls := .type W, data := .fields #[.builtin id, .ref x] }) (hp : plainId id = true) (hb : entryFor table id = some b)
    (hck : Looks (model prog w) s.heap (checkBoundCall id ⟨.ref x :: rest, []⟩) ())
    (hc : wpAny (model prog w) A.in1 (b ⟨.ref x :: rest, []⟩) (fun fin s' => ∃ v, fin = .done (.ret v) ∧ Q v s') E s) : wpAny (model prog w) A (call (.ref q) rest) Q E s := by
  refine wpAny_call (codeAny_of_tree ?_)
  show wpAny _ _ (callAny (.ref q) _) _ _ _
  unfold callAny
  refine wpAny_bind (wpAny_load hq ?_)
  have hcl : (Value.type W == .type "method" || Value.type W == .type "builtin_function_or_method" || Value.type W == .type "method-wrapper") = true := by rcases hW with rfl | rfl <;> decide
  have hnm : (Value.type W != .type "method") = true := by rcases hW with rfl | rfl <;> decide
  dsimp only
  simp only [hcl, if_true]
  show wpAny _ _ (if (Value.type W != .type "method") = true then _ else _) _ _ _
  rw [if_pos hnm]
  refine wpAny_bind (hck.here ?_)
  refine wpAny_pure (And.intro (plainId_quiet hp _) (codeAny_builtin hb ?_))
  rw [Around.under_plainId hp _]
  refine wpAny_mono hc (fun fin s' h' => by obtain ⟨v, rfl, hv⟩ := h'; exact hv) fun _ _ h' => h'

theorem keeps_bound {M : Model} {q x : Addr} {W id : String} (hW : W = "method-wrapper" ∨ W = "builtin_function_or_method") (h : Heap) (hq : h.get? q = some { cls := .type W, data := .fields #[.builtin id, .ref x] }) :
    ∃ k, (k = Keeper.frame ∨ k = Keeper.machine ∨ k = Keeper.boundFrame) ∧ Looks M h (keeperOf (.ref q)) k := by
  refine ⟨.machine, .inr (.inl rfl), (Looks.ld (part := none) hq).andThen ?_⟩
  rcases hW with rfl | rfl <;> exact .now
end

section
variable {w : World} {A : Around} {E : Value → Shared → Prop} {s : Shared} {h₀ : Heap} {L : Addr} {m : Str → Option Value} {x : Addr} {ox : Obj}
theorem super_expr {body : List Stmt} {q : Str} {scope : Scope} {p0 p1 pos apos : Pos} {name : Str} {f cda : Addr} {id T gid W : String} {b : Builtin} {fd : FuncData} {ar : Arg} {vs : Array Value} {file : Str} {tf : Tok} {oc ccl : Value} {od cdd : Option Addr} {osl ccs : Array (Option Value)} {Q : Value → Shared → Prop}
    {K : Frag} {p : Program} {loose : List Str} {mg mb : Str → Option Value} {cd : ClassData}
    (F : Fr h₀ L s.heap m) (X₀ : K.In h₀) (T₀ : TopRead p loose mg mb h₀) (hx : s.heap.get? x = some ox) (hxc : ox.cls = .ref 195) (hno : notCls ox = true)
    (hf : K.lookup f = some ⟨oc, od, .func fd, osl⟩) (hp : (fd.params.posonlyargs ++ fd.params.args).head? = some ar) (hv : m ar.arg = some (.ref x))
    (hcode : K.lookup cda = some ⟨ccl, cdd, .fields vs, ccs⟩) (hvs : vs[2]? = some (.str file tf)) (hfile : ((PR.main.file : Str) == file) = true)
    (hcell : K.lookup 119 = some ⟨.type "cell", none, .cell (some (.ref 195)), #[]⟩) (hD : clsIn K 195 = some cd) (hself : mroIn K 195 (.ref 195) = some true) (hlist : subIn K (.ref 195) (.type "list") = some true) (hsuper : nsIn K mainGlobals "super" = some none)
    (hop : nsIn K cStatics "thirdparty.any" = some none)
    (hat : (name == ("__class__" : Str)) = false) (hks : scope.names.lookup ("super" : Str) = some .globalImplicit) (hkc : scope.names.lookup ("__class__" : Str) = some .free) (hka : scope.names.lookup ar.arg = some .local) (hk : scope.kind = .function)
    (htop : (PR.main.scope.names.lookup ("super" : Str)).isSome = false) (hboot : bootBuiltins "super" = some (.type "super"))
    (hm : ks_superIn K 195 195 name = some (some (.builtin id))) (hT : typeIn K (.builtin id) = some (.type T)) (hg : findIn K (.type T) "__get__" = some (some (.builtin gid)))
    (hW : W = "method-wrapper" ∨ W = "builtin_function_or_method")
    (hget : ∀ {h : Heap} {g d t os} {A : Around} {E : Value → Shared → Prop} {Q' : Value → Shared → Prop}, K.In h → h.get? x = some ox → Q' (.ref h.objs.size) ⟨h.push { cls := .type W, data := .fields #[.builtin id, .ref x] }, g, d, t, os⟩ →
      wpAny (model PR w) A (call (.builtin gid) [.builtin id, .ref x, .ref 195]) Q' E ⟨h, g, d, t, os⟩)
    (hpl : plainId id = true) (hb : entryFor table id = some b) (hck : ∀ {h : Heap}, K.In h → h.get? x = some ox → Looks (model PR w) h (checkBoundCall id ⟨[.ref x], []⟩) ())
    (hc : ∀ h' tk, (∀ b o, s.heap.get? b = some o → h'.get? b = some o) → wpAny (model PR w) A.in1 (b ⟨[.ref x], []⟩) (fun fin s' => ∃ v, fin = .done (.ret v) ∧ Q v s') E { s with heap := h', toks := tk })
    (he : ∀ env, eval (.Call (.Attribute (.Call (.Name "super" p0) [] [] p1) name apos) [] [] pos) env = (do
      let ov ← attributeBase (.Call (.Name "super" p0) [] [] p1) name env (eval (.Call (.Name "super" p0) [] [] p1) env)
      standAt apos.atName
      let (f, first) ← holding [ov] (getMethod ov name (do return (← importBound (.Call (.Name "super" p0) [] [] p1) env).getD true))
      callWith pos f first (backTo pos (starEach [] env)) []) := by intro _; rfl) :
    _root_.PySem.wpAt (model PR w) A (.func body (envX q scope L f (.ref cda) [("__class__", 119)])) (eval (.Call (.Attribute (.Call (.Name "super" p0) [] [] p1) name apos) [] [] pos) (envX q scope L f (.ref cda) [("__class__", 119)])) Q E s := by
  have X : K.In s.heap := X₀.keeps F.keep
  obtain ⟨hh, g, d, t, os⟩ := s
  obtain ⟨oD, hD1, hD2⟩ : ∃ oD, hh.get? 195 = some oD ∧ oD.data = .cls cd := by
    unfold clsIn at hD
    split at hD
    · rename_i c d cd' sl ho
      cases hD
      exact ⟨_, X _ _ ho, rfl⟩
    · cases hD
  have hnc : ∀ c, ox.data ≠ .cls c := fun c e => by unfold notCls at hno; rw [e] at hno; exact Bool.noConfusion hno
  have hx195 : x ≠ 195 := fun e => by rw [e, hD1] at hx; cases hx; exact hnc _ hD2
  refine ks_wpAt_MethodCall (pl := (do return (← importBound (.Call (.Name "super" p0) [] [] p1) (envX q scope L f (.ref cda) [("__class__", 119)])).getD true)) ?_ (he _)
  refine ks_wpAt_super_base (env := envX q scope L f (.ref cda) [("__class__", 119)]) hks hkc hat rfl (X _ _ hf) rfl hp rfl (X _ _ hcode) rfl hvs hfile htop ?_
  refine ks_loadName_global hk hks (loadGlobal_builtin (env := envX q scope L f (.ref cda) [("__class__", 119)]) (T₀.g.keeps F.keep) (mg_none_of X₀ T₀.g hsuper) (T₀.b.keeps F.keep) ((T₀.builtins _ (by decide +kernel)).trans hboot) ⟨rfl, ?_⟩)
  refine wpAny_loadName_free hk hkc rfl ⟨_, X _ _ hcell, rfl⟩ ?_
  refine wpAny_loadName_local hk hka F.ns hv ?_
  refine ks_wpAny_isType_cls hD1 hD2 ⟨rfl, ?_⟩
  refine ks_wpAny_call_super hD1 hD2 hx hxc hnc (looks_mroIn X hself) (fun h1 e1 k1 => ?_)
  have X1 : K.In h1 := X.keeps (fun b o e => k1 b o e)
  have hx1 := k1 _ _ hx
  have hsup := hm
  unfold ks_superIn at hsup
  rw [hD] at hsup
  refine getMethod_super_bi (K := K) e1 (looks_opaque X1 hop) (l₀ := cd.mro) (fun A Q E s k q => wpAny_bind ((looks_clsIn X1 hD) A _ E s k (wpAny_pure q))) rfl X1 hsup (looks_typeIn X1 hT) (looks_findIn X1 hg) hx195 hat
    (fun hq' => hget X1 hx1 hq') ?_
  have k2 : ∀ b o, h1.get? b = some o → (h1.push { cls := .type W, data := .fields #[.builtin id, .ref x] }).get? b = some o := fun b o e => Heap.get?_push_of_some _ e
  have hmw : (h1.push { cls := .type W, data := .fields #[.builtin id, .ref x] }).get? h1.objs.size = some { cls := .type W, data := .fields #[.builtin id, .ref x] } := Heap.get?_push_at rfl rfl
  refine callWith_of (P := fun h => h.get? h1.objs.size = some { cls := .type W, data := .fields #[.builtin id, .ref x] }) rfl (fun h hq => keeps_bound hW h hq) (evalArgs_nil3 ⟨hmw, ?_⟩)
  refine call_bound hW hmw hpl hb (hck (X1.keeps (fun b o e => k2 b o e)) (k2 _ _ hx1)) ?_
  exact hc _ _ fun b o e => k2 _ _ (k1 _ _ e)
end
section
variable {w : World} {A : Around} {s : Shared} {g : Heap} {led : List (Addr × Obj)} {R : Result → Shared → Prop} {K : Frag}
  {name qual : Str} {params : Arguments} {body : List Stmt} {scope : Scope} {dV kV doc pm cdv ct oc : Value} {an od : Option Addr} {osl : Array (Option Value)} {f : Addr} {args : Args} {binds : List (Str × Value)} {cl : List (Str × Addr)}
  {p : Program} {loose : List Str} {mg mb : Str → Option Value}
theorem enterAt (X : K.In g) (T : TopRead p loose mg mb g) (st : g.StaysIn s.heap) (hl : ∀ q ∈ led, s.heap.get? q.1 = some q.2 ∧ g.get? q.1 = none)
    (ho : K.lookup f = some ⟨oc, od, .func (fnX name qual params body scope cl dV kV doc pm an cdv ct), osl⟩) (hcd : codeIn K cdv qual = true) (hroom : A.depth < recursionLimit)
    (hbind : BindsTo s (fnX name qual params body scope cl dV kV doc pm an cdv ct) args binds) (hloc : (binds.all fun x => decide (scope.names.lookup x.1 = some .local)) = true)
    (h : ∀ g' h₁, (∀ b o, s.heap.get? b = some o → b ∉ led.map (·.1) → g'.get? b = some o) → g.StaysIn g' → (∀ b o, s.heap.get? b = some o → h₁.get? b = some o) → Fr g' s.heap.objs.size h₁ (fun y => binds.reverse.lookup y) → News g' s.heap.objs.size h₁ led → K.In g' → TopRead p loose mg mb g' →
      _root_.PySem.wpAt (model PR w) (A.deeper (envX qual scope s.heap.objs.size f cdv cl)) (.func body (envX qual scope s.heap.objs.size f cdv cl)) (execs body (envX qual scope s.heap.objs.size f cdv cl))
        (fun fl s' => R (.ok (.ret (match fl with | .ret v => v | _ => .none))) s') (fun _ _ => False)
        { s with heap := h₁, toks := s.toks + binds.length })
    (hcell : ∀ x ∈ scope.names, x.2 ≠ .cell) (hco : scope.isCoroutine = false) (hgen : scope.isGenerator = false) (hk : scope.kind = .function) : codeAny (model PR w) A (.call (.ref f) args) R s := by
  have hn : ∀ a ∈ led.map (·.1), g.get? a = none := fun a ha => by
    obtain ⟨q, hq, rfl⟩ := List.mem_map.mp ha
    exact (hl q hq).2
  have st' := hide_stays st hn
  refine ks_codeAny_call_defAt (fd := fnX name qual params body scope cl dV kV doc pm an cdv ct) (body := body) (binds := binds) hroom ((X.keeps st) _ _ ho) rfl (T.nolimit.keeps st) (codeRec_of (X.keeps st) hcd) rfl hbind hcell (locs hloc) (fun h₁ hns hk₁ => ?_) hco hgen hk
  refine ks_wpAt_mono (h (hideAll s.heap (led.map (·.1))) h₁ (fun b o e hb => hideAll_get _ e hb) st' hk₁ ⟨hns, fun b o e => hk₁ b o (of_hideAll _ e), Nat.le_of_eq (hideAll_size _ _)⟩
    (fun q hq => ⟨hk₁ _ _ (hl q hq).1, Nat.ne_of_lt (Heap.lt_size (hl q hq).1), hideAll_none _ (List.mem_map_of_mem hq)⟩) (X.keeps (fun b o e => st' b o e)) (T.keeps (fun b o e => st' b o e))) (fun fl s' z => z) fun _ _ z => z.elim
end
theorem entry_llen : entryFor table "list.__len__" = some Builtin.«list.__len__» := entryFor_of_tree (by kernel_rfl)
theorem entry_lpop : entryFor table "list.pop" = some Builtin.«list.pop» := entryFor_of_tree (by kernel_rfl)
theorem entry_linit : entryFor table "list.__init__" = some Builtin.«list.__init__» := entryFor_of_tree (by kernel_rfl)

section
variable {prog : Program} {w : World} {A : Around} {E : Value → Shared → Prop} {h : Heap} {g : Array GenState} {dr : Drawn} {t : Nat} {os : OsState} {x d : Addr} {its : Array Value} {n : Nat}
theorem body_len {Q : Fin → Shared → Prop} (hx : h.get? x = some (accObj d its n)) (hq : Q (.done (.ret (.int its.size t))) ⟨h, g, dr, t + 1, os⟩) : wpAny (model prog w) A (Builtin.«list.__len__» ⟨[.ref x], []⟩) Q E ⟨h, g, dr, t, os⟩ := by
  unfold Builtin.«list.__len__»
  repeat lk
  exact hq
theorem ck_len {M : Model} {h : Heap} {x : Addr} : Looks M h (checkBoundCall "list.__len__" ⟨[.ref x], []⟩) () := Looks.of_pure (by kernel_rfl)
end

set_option pp.maxSteps 2000 in
theorem part_count_spec {w : World} {A : Around} {s : Shared} {g : Heap} {p : Program} {loose : List Str} {mg mb : Str → Option Value} {acc d : Addr} {its : Array Value} {n : Nat} {Q E : Value → Shared → Prop}
    (X : (hd.heap_1 w.params).In g) (T : TopRead p loose mg mb g) (st : g.StaysIn s.heap) (ha : s.heap.get? acc = some (accObj d its n))
    (hr : A.depth < recursionLimit)
    (h : ∀ h' tk tk', (∀ b o, s.heap.get? b = some o → h'.get? b = some o) → Q (.int its.size tk') { s with heap := h', toks := tk }) :
    wpAny (model PR w) A (call (.ref 192) [.ref acc]) Q E s := by
  refine wpAny_call ?_
  refine' enterAt (binds := [("self", .ref acc)]) (led := []) X T st ?hl ?ho ?hcd hr ?hb ?hloc ?_ ?hcell ?hco ?hgen ?hk
  case hl => exact fun _ h => nomatch h
  case ho => k_is
  case hcd => k_is
  case hb => exact BindsTo.of_eq rfl
  case hloc => rfl
  case hcell => decide
  case hco => rfl
  case hgen => rfl
  case hk => rfl
  intro g' h₁ kp st' kp₁ F' N' X' T'
  refine ks_wpAt_execs_cons (ks_wpAt_Return_some ?_)
  have ha' := kp₁ _ _ ha
  refine' super_expr F' X' T' ha' rfl rfl ?hf ?hp ?hv ?hcode ?hvs ?hfile ?hcell ?hD ?hself ?hlist ?hsuper ?hop ?hat ?hks ?hkc ?hka ?hk ?htop ?hboot ?hm ?hT ?hg (.inl rfl) ?hget ?hpl entry_llen ?hck ?hc
  case hf => k_is
  case hp => exact rfl
  case hv => exact rfl
  case hcode => k_is
  case hvs => exact rfl
  case hfile => first | rfl | decide +kernel
  case hcell => k_is
  case hD => k_is
  case hself => k_is
  case hlist => k_is
  case hsuper => k_is
  case hop => k_is
  case hat => decide
  case hks => rfl
  case hkc => rfl
  case hka => rfl
  case hk => rfl
  case htop => decide +kernel
  case hboot => first | boot_by_name | rfl | kernel_rfl
  case hm => ks_is
  case hT => k_is
  case hg => k_is
  case hget => intro h g dd t os A E Q' Xh hx hq; exact wdget Xh hx rfl (.inl rfl) (by k_is) hq
  case hpl => decide +kernel
  case hck => intro h _ _; exact ck_len
  case hc =>
    intro h' tk k
    refine body_len (k _ _ ha') ⟨_, rfl, ?_⟩
    exact h _ _ _ fun b o e => k _ _ (kp₁ _ _ e)
example : True := by
  k_with_none
  trivial
section
variable {M : Model} {A : Around} {E : Value → Shared → Prop} {s : Shared}
theorem genCode {env : Env} {c P : Addr} {ps : Array Value} {pos : Pos} {qualname : Str} {scope : Scope} {Q : Value → Shared → Prop} (hc : env.code = .ref c) (C : CodeHd s.heap c P) (hP : s.heap.get? P = some (tabObj ps)) (ht : TriplesOk ps.toList)
    (hQ : ∀ code h' tk ps', Heap.ExtBut P s.heap h' → h'.get? P = some (tabObj ps') → TriplesOk ps'.toList → Q code { s with heap := h', toks := tk }) : wpAny M A (genexprCode env pos qualname scope) Q E s := by
  have hok := C.code hP ht
  cases hnf : codeAmong pos ps.toList with
  | some c' => exact wpAny_genexprCode_hit hc hok hnf (hQ c' s.heap s.toks ps (Heap.ExtBut.refl _ _) hP ht)
  | none =>
    refine wpAny_genexprCodeX hc hok (C.tab hP) hnf fun c' h' tk hk _ _ hic _ htab _ => ?_
    obtain ⟨_, _, _, _, _, _, _, _, _, op, _, _, _, _, _, _, _, hop, hod, htr, _⟩ := hic
    have e := htab.2
    rw [e] at hop
    cases hop
    cases hod
    exact hQ _ h' tk _ hk e htr
end

section
variable {prog : Program} {w : World} {A : Around} {E : Value → Shared → Prop} {s : Shared} {K : Frag}
theorem accIter {x d : Addr} {its : Array Value} {n : Nat} {Q : Value → Shared → Prop} (X : K.In s.heap) (hx : s.heap.get? x = some (accObj d its n)) (hit : findIn K (.ref 195) "__iter__" = some (some (.builtin "list.__iter__"))) (hl : subIn K (.ref 195) (.type "list") = some true)
    (hQ : Q (.ref s.heap.objs.size) { s with heap := s.heap.push { cls := .type "list_iterator", data := .fields #[.ref x, .int 0 0] } }) :
    wpAny (model prog w) A (pyIter (.ref x)) Q E s := by
  have hT : Looks (model prog w) s.heap (typeOf (.ref x)) (.ref 195) := (Looks.ld hx).andThen .now
  have hi : Looks (model prog w) s.heap (isInstance (.ref x) (.type "list")) true := ((Looks.ld (part := none) hx).andThen (Looks.now (a := Value.ref 195))).andThen (looks_subIn X hl)
  have hc : wpAny (model prog w) A (call (.builtin "list.__iter__") [.ref x]) (fun it s' => ∃ T' r, s'.TypeIs it T' ∧ typeLookup (.type T') "__next__" = pure (some r) ∧ Q it s') E s := by
    refine call_sub (id := "list.__iter__") (owner := "list") (n := "__iter__") (.inr (by decide +kernel)) (by decide +kernel) (by decide +kernel) entry_list_iter (args_list_iter _) hi ?_
    show wpAny _ _ (do ret (← newFields "list_iterator" [.ref x, rawInt 0])) _ _ s
    exact wpAny_bind (wpAny_newObj_type (wpAny_pure ⟨_, rfl, "list_iterator", _, ⟨_, Heap.get?_push_size _ rfl, rfl⟩, slot_listiter_next.lookup, hQ⟩))
  unfold pyIter specialOf
  refine wpAny_bind (wpAny_bind (hT.here ((looks_findIn X hit).here ?_)))
  show wpAny _ A (callSpecialIfBoundUnlessNone? (.ref x) "__iter__" _ >>= _) Q E s
  have hcu : wpAny (model prog w) A (callSpecialIfBoundUnlessNone? (.ref x) "__iter__" (do rule "iter.none"; raiseError "TypeError" s!"'{← PySem.typeNameOf (.ref x)}' object is not iterable")) (fun v s' => match v with
      | some it => ∃ T' r, s'.TypeIs it T' ∧ typeLookup (.type T') "__next__" = pure (some r) ∧ Q it s'
      | none => False) E s := by
    simp only [callSpecialIfBoundUnlessNone?, bindSpecialIfBound?, specialOf]
    refine wpAny_holding (wpAny_bind (wpAny_bind (wpAny_bind (hT.here ((looks_findIn X hit).here ?_)))))
    simp only [slot_list_iter.bind]
    refine wpAny_bind (wpAny_askSetting (wpAny_ite ?_))
    have fin : ∀ {refuse : Sem Value}, wpAny (model prog w) A (if (Value.builtin "list.__iter__" == Value.none) = true then (refuse >>= fun v => pure (some v)) else (call (.builtin "list.__iter__") [.ref x] >>= fun v => pure (some v))) (fun v s' => match v with
        | some it => ∃ T' r, s'.TypeIs it T' ∧ typeLookup (.type T') "__next__" = pure (some r) ∧ Q it s'
        | none => False) E s := by
      intro refuse
      simp only [builtin_beq_none, Bool.false_eq_true, if_false]
      exact wpAny_bind (wpAny_mono hc (fun v s' h' => wpAny_pure h') fun _ _ h' => h')
    split
    · exact wpAny_bind (wpAny_pure (wpAny_pure fin))
    · exact wpAny_tryCatch (wpAny_bind (wpAny_pure (wpAny_pure fin)))
  refine wpAny_bind (wpAny_mono hcu (fun v s' hv => ?_) fun _ _ z => z)
  cases v with
  | none => exact hv.elim
  | some it =>
    obtain ⟨T', r, hT', hl', hq⟩ := hv
    exact wpAny_bind (wpAny_specialOf hT' hl' (wpAny_pure hq))

theorem accNext {it l d : Addr} {i : Nat} {items : Array Value} {n : Nat} {x : Value} {Q : Option Value → Shared → Prop} (hit : s.heap.IsListIter it l i)
    (hol : s.heap.get? l = some (accObj d items n)) (hx : items[i]? = some x)
    (hQ : ∀ h', h'.IsListIter it l (i + 1) → Heap.SameBut it s.heap h' → Q (some x) { s with heap := h' }) :
    wpAny (model prog w) A (pyNext (.ref it)) Q E s := by
  obtain ⟨o, ho, hc, hd⟩ := id hit
  have hdl : (accObj d items n).data = .seq items n := rfl
  unfold pyNext
  refine wpAny_bind (wpAny_attempt (wpAny_callSpecial?_slot (name := Str.ofString "__next__") hit.typeIs slot_listiter_next
    (wpAny_call_entry slot_listiter_next hit.typeIs entry_listiter_next ?_ (args_listiter_next _))))
  show wpAny _ _ (field (.ref it) 0 >>= _) _ _ s
  refine wpAny_bind (wpAny_field ho hd (x := .ref l) rfl ?_)
  show wpAny _ _ (if (Value.ref l == Value.none) = true then _ else _) _ _ s
  rw [if_neg (show ¬ ((Value.ref l == Value.none) = true) from Bool.false_ne_true)]
  show wpAny _ _ (field (.ref it) 1 >>= _) _ _ s
  refine wpAny_bind (wpAny_field ho hd (x := .int i 0) rfl ?_)
  show wpAny _ _ (seqItems? (.ref l) >>= _) _ _ s
  refine wpAny_bind (wpAny_seqItems hol hdl ?_)
  simp only [Int.toNat_natCast, hx]
  refine wpAny_bind (wpAny_setField ho hd (by simp) (wpAny_pure ⟨x, rfl, wpAny_pure (hQ _ ?_ (Heap.SameBut.update ..))⟩))
  exact ⟨_, Heap.get?_update_self _ ho (Obj.isFreed_of_fields (Obj.data_mapFields hd _)), (Obj.cls_mapFields ..).trans hc, by
    rw [Obj.data_mapFields hd]; simp [rawInt]⟩

theorem accNextEnd {it l d : Addr} {i : Nat} {items : Array Value} {n : Nat} {Q : Option Value → Shared → Prop} (hh : A.handled = none)
    (hit : s.heap.IsListIter it l i) (hol : s.heap.get? l = some (accObj d items n)) (hx : items[i]? = none)
    (hQ : ∀ h', Heap.ExtBut it s.heap h' → Q none { s with heap := h' }) : wpAny (model prog w) A (pyNext (.ref it)) Q E s := by
  obtain ⟨o, ho, hc, hd⟩ := id hit
  have hdl : (accObj d items n).data = .seq items n := rfl
  unfold pyNext
  refine wpAny_bind (wpAny_attempt (wpAny_callSpecial?_slot (name := Str.ofString "__next__") hit.typeIs slot_listiter_next
    (wpAny_call_entry slot_listiter_next hit.typeIs entry_listiter_next ?_ (args_listiter_next _))))
  show wpAny _ _ (field (.ref it) 0 >>= _) _ _ s
  refine wpAny_bind (wpAny_field ho hd (x := .ref l) rfl ?_)
  show wpAny _ _ (if (Value.ref l == Value.none) = true then _ else _) _ _ s
  rw [if_neg (show ¬ ((Value.ref l == Value.none) = true) from Bool.false_ne_true)]
  show wpAny _ _ (field (.ref it) 1 >>= _) _ _ s
  refine wpAny_bind (wpAny_field ho hd (x := .int i 0) rfl ?_)
  show wpAny _ _ (seqItems? (.ref l) >>= _) _ _ s
  refine wpAny_bind (wpAny_seqItems hol hdl ?_)
  simp only [Int.toNat_natCast, hx]
  refine wpAny_bind (wpAny_rule (wpAny_bind (wpAny_setField ho hd (by simp) ?_)))
  show wpAny _ _ (newExc (.type "StopIteration") [] >>= _) _ _ _
  refine wpAny_bind ?_
  simp only [newExc, newTuple]
  refine wpAny_bind (wpAny_newObj_type ?_ (by size_fits))
  refine wpAny_bind (m := firstArgMember _ _) (wpAny_of_eq (a := Value.none) (by first | rfl | (simp only [firstArgMember]; rfl)) ?_)
  refine wpAny_newObj_type ?_ (by size_fits)
  simp only [raiseNew]
  refine wpAny_bind (wpAny_handled ?_)
  rw [show A.in1.handled = none from hh]
  refine wpAny_bind (wpAny_pure (wpAny_throw ?_))
  refine wpAny_bind (wpAny_isInstance (T := "StopIteration") (b := true) ⟨_, Heap.get?_push_size _ rfl, rfl⟩ isSubtype_stop ?_)
  exact wpAny_pure (hQ _ (((Heap.SameBut.update ..).extBut.push _).push _))

theorem walksAcc (hh : A.handled = none) (I ax d : Addr) (n : Nat) (hne : ax ≠ I) (items : Array Value) (Ts : Nat → Addr) (vals : Nat → Array Value)
    (hit : ∀ j, j < items.size → items[j]? = some (.ref (Ts j))) (hTI : ∀ j, j < items.size → Ts j ≠ I) :
    WalksU prog w A I (I :: ax :: (List.range items.size).map Ts) [I] items.size (fun j v => v = vals j)
      (fun j h => h.IsListIter I ax j ∧ h.get? ax = some (accObj d items n) ∧ ∀ k, k < items.size → h.IsTuple (Ts k) (vals k))
      (fun j T h => (j < items.size ∧ T = Ts j) ∧ h.IsListIter I ax (j + 1) ∧ h.get? ax = some (accObj d items n) ∧ ∀ k, k < items.size → h.IsTuple (Ts k) (vals k)) where
  sub := fun b hb => by simp at hb; simp [hb]
  frame := fun _ _ _ st hk => ⟨st.1.at fun o e => hk I (by simp) o e, hk ax (by simp) _ st.2.1,
    fun k hk' => (st.2.2 k hk').at fun o e => hk (Ts k) (List.mem_cons_of_mem _ (List.mem_cons_of_mem _ (List.mem_map.mpr ⟨k, List.mem_range.mpr hk', rfl⟩))) o e⟩
  item := fun i s Q E hi st hQ => by
    refine accNext st.1 st.2.1 (x := .ref (Ts i)) (hit i hi) fun h' hit' hs' => ?_
    have tup : ∀ k, k < items.size → h'.IsTuple (Ts k) (vals k) := fun k hk' => (st.2.2 k hk').extBut hs'.extBut (hTI k hk')
    exact hQ (Ts i) (vals i) h' s.toks rfl (tup i hi) ⟨⟨hi, rfl⟩, hit', hs'.extBut _ _ hne st.2.1, tup⟩ fun b o hb e => hs'.extBut b o (fun h => hb (by simp [h])) e
  go := fun _ _ _ _ _ s Q _ hm hQ => wpAny_letOwnedTupleGo_listiter hm.2.1 (hQ s.heap hm.2 fun _ _ _ e => e)
  apart := fun j T _ hm hmem => by
    rcases List.mem_cons.mp hmem with e | e
    · exact hTI j hm.1.1 (hm.1.2 ▸ e)
    · cases e
  done := fun s Q E st hQ => accNextEnd hh st.1 st.2.1 (by simp) fun h' he' => hQ h' s.toks fun b o hb e => he' b o (fun h => hb (by simp [h])) e
  self := fun _ _ _ _ st hQ => wpAny_pyIter_listiter st.1 hQ
end
section
variable {prog : Program} {w : World} {A : Around} {E : Value → Shared → Prop} {s : Shared}
theorem sum_start {x : Value} {t0 : Tok} {Q : Value → Shared → Prop}
    (h : wpAny (model prog w) A.in1 (pyIter x) (fun it s₂ => ∃ I fp wr G n P St val, it = .ref I ∧ WalksS prog w A.in1 I fp wr G n P St ∧ St 0 s₂ ∧ (∀ b ∈ fp, b < s₂.heap.objs.size) ∧
      (∀ i v, P i v → ∃ t, v = .int (val i) t) ∧ (∀ j, j < n → InLong (val j) ∧ InLong (preSum val (j + 1))) ∧
      ∀ s' t', Moved wr G s₂ s' → Q (.int (preSum val n) t') s') E s) :
    wpAny (model prog w) A (call (.builtin "sum") [x, .int 0 t0]) Q E s := by
  refine call_function_tree F.kind_sum F.plain_sum F.entry_sum (by unfold argsOk; kernel_rfl) ?_
  unfold Builtin.«sum»
  simp only [List.length_cons, List.length_nil]
  rw [if_neg (by decide)]
  refine wpAny_bind (wpAny_of_eq (show Builtin.Builtins.bindParams "sum" ["start"] 0 ⟨[.int 0 t0], []⟩ = pure [some (.int 0 t0)] from rfl) ?_)
  refine wpAny_bind (wpAny_mono h (fun it s₂ h₂ => ?_) fun _ _ e => e)
  obtain ⟨I, fp, wr, G, n, P, St, val, rfl, W, hst, hfp, hval, hfit, hQ⟩ := h₂
  refine wpAny_bind ?_
  try rw [if_pos (by decide)]
  refine wpAny_rule (wpAny_bind (wpAny_mkInt (wpAny_bind (wpAny_pure ?_))))
  simp only [List.forIn_cons, List.forIn_nil]
  refine wpAny_bind (wpAny_bind (wpAny_bind (wpAny_isInstance (T := "int") (b := false) (typeIs_int _ _ _) _root_.PySem.sub_int_str ?_)))
  simp only [Bool.false_eq_true, if_false]
  refine wpAny_pure (wpAny_bind (wpAny_bind (wpAny_isInstance (T := "int") (b := false) (typeIs_int _ _ _) _root_.PySem.sub_int_bytes ?_)))
  simp only [Bool.false_eq_true, if_false]
  refine wpAny_pure (wpAny_bind (wpAny_bind (wpAny_isInstance (T := "int") (b := false) (typeIs_int _ _ _) _root_.PySem.sub_int_bytearray ?_)))
  simp only [Bool.false_eq_true, if_false]
  refine wpAny_pure (wpAny_pure ?_)
  refine wpAny_bind (wpAny_newObj_type ?_)
  have hSf : s₂.heap.objs.size ∉ fp := fun hm => Nat.lt_irrefl _ (hfp _ hm)
  refine wpAny_pure ⟨plainId_quiet F.plain_sum_loop _, codeAny_sum_loopS W val hval hfit s₂.heap.objs.size hSf n 0 _ s₂.toks 0 rfl (Nat.zero_le _)
    (W.frame 0 s₂ _ _ hst (by first | exact Nat.le_refl _ | exact Nat.le_succ _ | omega) fun b _ o e => Heap.get?_push_of_some _ e) (Heap.get?_push_size _ rfl) fun s' t' hm => ?_⟩
  exact hQ s' t' (hm.drop_new (by first | exact Nat.le_refl _ | exact Nat.le_succ _ | omega))
end
example : True := by
  k_with_none
  trivial

noncomputable def BM (mg : Str → Option Value) (h : Heap) : Prop := ∃ bm ob, mg "__builtins__" = some (.ref bm) ∧ bm ≠ builtinsNs ∧ h.get? bm = some ob ∧ ob.cls = .type "module" ∧ ob.dict = some builtinsNs ∧ ob.data = .plain
theorem BM.keeps {mg : Str → Option Value} {h h' : Heap} (b : BM mg h) (k : ∀ b o, h.get? b = some o → h'.get? b = some o) : BM mg h' := let ⟨bm, ob, a, b, c, r⟩ := b; ⟨bm, ob, a, b, k _ _ c, r⟩

inductive Parts (h : Heap) : List Value → List (Str × Str) → Prop
  | nil : Parts h [] []
  | cons {T : Addr} {f p : Str} {tf tp : Tok} {vs : List Value} {ps : List (Str × Str)} : h.get? T = some (tupObj [.str f tf, .str p tp]) → Parts h vs ps → Parts h (.ref T :: vs) ((f, p) :: ps)
theorem Parts.keeps {h h' : Heap} {vs : List Value} {ps : List (Str × Str)} (x : Parts h vs ps) (k : ∀ b o, h.get? b = some o → (∃ a b', o = tupObj [a, b']) → h'.get? b = some o) : Parts h' vs ps := by
  induction x with
  | nil => exact .nil
  | cons e _ ih => exact .cons (k _ _ e ⟨_, _, rfl⟩) ih
theorem Parts.length {h : Heap} {vs : List Value} {ps : List (Str × Str)} (x : Parts h vs ps) : vs.length = ps.length := by
  induction x with
  | nil => rfl
  | cons _ _ ih => simp [ih]
theorem Parts.at {h : Heap} {vs : List Value} {ps : List (Str × Str)} (x : Parts h vs ps) : ∀ j, j < vs.length → ∃ T f p tf tp, vs[j]? = some (.ref T) ∧ ps[j]? = some (f, p) ∧ h.get? T = some (tupObj [.str f tf, .str p tp]) := by
  induction x with
  | nil => intro j hj; simp at hj
  | cons e _ ih =>
    intro j hj
    cases j with
    | zero => exact ⟨_, _, _, _, _, rfl, rfl, e⟩
    | succ j =>
      obtain ⟨T, f, p, tf, tp, a, b, c⟩ := ih j (by simpa using hj)
      exact ⟨T, f, p, tf, tp, by simpa using a, by simpa using b, c⟩
theorem Parts.append {h : Heap} {vs vs' : List Value} {ps ps' : List (Str × Str)} (x : Parts h vs ps) (y : Parts h vs' ps') : Parts h (vs ++ vs') (ps ++ ps') := by
  induction x with
  | nil => exact y
  | cons e _ ih => exact .cons e ih

theorem walksWeak {prog : Program} {w : World} {A : Around} {I : Addr} {fp wr : List Addr} {G : Array GenState → Array GenState → Prop} {n n' : Nat} {P P' : Nat → Value → Prop} {St : Nat → Shared → Prop} (W : WalksS prog w A I fp wr G n P St) (hn : n = n') (h : ∀ i v, i < n → P i v → P' i v) : WalksS prog w A I fp wr G n' P' St where
  sub := W.sub
  grefl := W.grefl
  gtrans := W.gtrans
  frame := W.frame
  item := fun i s Q E hi st hQ => W.item i s Q E (hn ▸ hi) st fun v s' hP st' hm => hQ v s' (h i v (hn ▸ hi) hP) st' hm
  done := hn ▸ W.done
  self := W.self

theorem passing_all (n : Nat) : passing (fun _ => true) n 0 = List.range n := by
  unfold passing
  simp

section
variable {w : World} {A : Around} {E : Value → Shared → Prop} {s : Shared} {p : Program} {loose : List Str} {mg mb : Str → Option Value}
theorem genAcc {env : Env} {elt iter : Expr} {pa pb pt : Pos} {kt : Nat} {scope : Scope} {pos : Pos} {Q : Value → Shared → Prop} {acc d : Addr} {its : Array Value} {n : Nat} {ps : List (Str × Str)} {c P : Addr} {tb : Array Value} {F : Nat → Value → Prop}
    (hh : A.handled = none) (X : (hd.heap_1 w.params).In s.heap) (T : TopRead p loose mg mb s.heap) (B : BM mg s.heap) (ha : s.heap.get? acc = some (accObj d its n)) (hp : Parts s.heap its.toList ps)
    (hcode : env.code = .ref c) (C : CodeHd s.heap c P) (hP : s.heap.get? P = some (tabObj tb)) (ht : TriplesOk tb.toList) (hPK : (hd.heap_1 w.params).lookup P = none) (hPG : P ≠ mainGlobals) (hPB : P ≠ builtinsNs) (hPS : P ≠ cStatics)
    (hgl : env.globals = mainGlobals) (hbi : env.builtins = builtinsNs)
    (hco : scope.isCoroutine = false) (hclos : closureFor scope env = pure []) (hcell : ∀ y ∈ scope.names, y.2 ≠ .cell) (h0 : scope.names.lookup (".0" : Str) = some NameKind.local)
    (hxa : scope.names.lookup ("fws" : Str) = some .local) (hxb : scope.names.lookup ("part" : Str) = some .local) (hkind : scope.kind = .function) (hroom : A.depth < recursionLimit)
    (hev : ∀ {Q' : Value → Shared → Prop}, Q' (.ref acc) s → wpAny (model PR w) A (eval iter env) Q' E s)
    (hq : ∀ (L : Addr) (code : Value) (A' : Around) E' (i : Nat) (f q : Str) (tf tq : Tok) (u : Shared) m₂, A'.handled = none → A'.depth ≤ A.depth + 1 → A'.units ≤ A.units + 8 → ps[i]? = some (f, q) → u.heap.Ns L m₂ → m₂ "fws" = some (.str f tf) → m₂ "part" = some (.str q tq) →
      (hd.heap_1 w.params).In u.heap → TopRead p loose mg mb u.heap → wpAny (model PR w) A' (eval elt (genEnv scope [] L code builtinsNs env)) (fun y s₃ => F i y ∧ Keeps u s₃) E' u)
    (hQ : ∀ a s₅ fp wr G St, AllBare s.gens → (∀ b ∈ fp, b < s₅.heap.objs.size) → a ∈ fp → (∀ i u, St i u → u.TypeIs (.ref a) "generator") → WalksS PR w A.in4 a fp wr G ps.length (fun j y => j < ps.length ∧ F j y) St → St 0 s₅ →
      (∀ u, Moved wr G s₅ u → (∀ b o, b ≠ P → s.heap.get? b = some o → u.heap.get? b = some o) ∧ (∃ tb', u.heap.get? P = some (tabObj tb') ∧ TriplesOk tb'.toList) ∧ AllBare u.gens ∧ u.drawn = s.drawn ∧ u.os = s.os) → Q (.ref a) s₅)
    (hB : AllBare s.gens)
    (hs : ∀ x, genFold iter env x = pure x) :
    wpAny (model PR w) A (eval (.GeneratorExp elt [⟨.Tuple [.Name "fws" pa, .Name "part" pb] kt pt, iter, [], 0⟩] scope pos) env) Q E s := by
  have hlen := hp.length
  have hitf : ∀ j, j < its.size → ∃ T, ∃ v : Array Value, its[j]? = some (.ref T) ∧ ∃ f q tf tq, v = #[.str f tf, .str q tq] ∧ ps[j]? = some (f, q) ∧ s.heap.get? T = some (tupObj [.str f tf, .str q tq]) := fun j hj => by
    obtain ⟨T, f, q, tf, tq, a, b, c⟩ := hp.at j (by simpa using hj)
    exact ⟨T, _, by simpa using a, f, q, tf, tq, rfl, b, c⟩
  let Ts : Nat → Addr := fun j => if hj : j < its.size then Classical.choose (hitf j hj) else 0
  let vals : Nat → Array Value := fun j => if hj : j < its.size then Classical.choose (Classical.choose_spec (hitf j hj)) else #[]
  have hTs : ∀ j, j < its.size → its[j]? = some (.ref (Ts j)) ∧ ∃ f q tf tq, vals j = #[.str f tf, .str q tq] ∧ ps[j]? = some (f, q) ∧ s.heap.get? (Ts j) = some (tupObj [.str f tf, .str q tq]) := fun j hj => by
    have := Classical.choose_spec (Classical.choose_spec (hitf j hj))
    simp only [Ts, vals, hj, dif_pos]
    exact this
  have hPl := Heap.lt_size hP
  refine wpAny_GeneratorExp_walksQTD hh hco hclos hcell h0 hxa hxb (by decide) hkind hroom (hev ?_) hs
  refine accIter X ha (by k_is) (by k_is) ⟨T.nolimit.keeps fun b o e => Heap.get?_push_of_some _ e, ?_⟩
  have k1 : ∀ b o, s.heap.get? b = some o → (s.heap.push { cls := .type "list_iterator", data := .fields #[.ref acc, .int 0 0] }).get? b = some o := fun b o e => Heap.get?_push_of_some _ e
  have hI : (s.heap.push { cls := .type "list_iterator", data := .fields #[.ref acc, .int 0 0] }).get? s.heap.objs.size = some { cls := .type "list_iterator", data := .fields #[.ref acc, .int 0 0] } := Heap.get?_push_size _ rfl
  refine genCode hcode (C.keeps k1) (k1 _ _ hP) ht fun code h4 tk4 tb' hx4 hP4 ht4 => ?_
  have k4 : ∀ b o, b ≠ P → s.heap.get? b = some o → h4.get? b = some o := fun b o hb e => hx4 b o hb (k1 b o e)
  have kall : ∀ b o, s.heap.get? b = some o → (∃ o', h4.get? b = some o') := fun b o e => by
    by_cases hb : b = P
    · exact ⟨_, hb ▸ hP4⟩
    · exact ⟨_, k4 b o hb e⟩
  have hIP : s.heap.objs.size ≠ P := Nat.ne_of_gt hPl
  have hI4 : h4.get? s.heap.objs.size = some { cls := .type "list_iterator", data := .fields #[.ref acc, .int 0 0] } := hx4 _ _ hIP hI
  obtain ⟨bm, ob, b1, b2, b3, b4, b5, b6⟩ := B
  have hobP : bm ≠ P := fun q => by rw [q, hP] at b3; cases b3; cases b4
  have nsk : ∀ {a : Addr} {mm : Str → Option Value}, s.heap.Ns a mm → a ≠ P → h4.Ns a mm := fun x hne => by
    obtain ⟨o, es, ep, e, hd, r⟩ := x
    exact ⟨o, es, ep, k4 _ _ hne e, hd, r⟩
  rw [hgl, hbi]
  refine wpAny_builtinsFor (nsk T.g (Ne.symm hPG)) b1 b2 (k4 _ _ hobP b3) b4 b5 b6 ?_
  have hlim4 : h4.NoLimit := by
    obtain ⟨mc, hn, hno⟩ := T.nolimit
    exact ⟨mc, nsk hn (Ne.symm hPS), hno⟩
  have haccP : acc ≠ P := fun q => by rw [q, hP] at ha; cases ha
  have haI : acc ≠ s.heap.objs.size := Nat.ne_of_lt (Heap.lt_size ha)
  have hTI : ∀ j, j < its.size → Ts j ≠ s.heap.objs.size := fun j hj => by
    obtain ⟨_, f, q, tf, tq, _, _, e⟩ := hTs j hj
    exact Nat.ne_of_lt (Heap.lt_size e)
  have hTP : ∀ j, j < its.size → Ts j ≠ P := fun j hj hq => by
    obtain ⟨_, f, q, tf, tq, _, _, e⟩ := hTs j hj
    rw [hq, hP] at e; cases e
  have hsz4 : ∀ b o, h4.get? b = some o → b < h4.objs.size := fun b o e => Heap.lt_size e
  have X4 : (hd.heap_1 w.params).In h4 := fun a o e => k4 a o (fun q => by rw [q, hPK] at e; cases e) (X a o e)
  have T4 : TopRead p loose mg mb h4 := ⟨nsk T.g (Ne.symm hPG), nsk T.b (Ne.symm hPB), hlim4, T.builtins, T.free⟩
  refine ⟨s.heap.objs.size, s.heap.objs.size :: acc :: (List.range its.size).map Ts, [s.heap.objs.size], its.size, fun j v => j < its.size ∧ v = vals j, _, _, fun _ => true, F, rfl, fun A' hA' => (walksAcc hA' s.heap.objs.size acc d n haI its Ts vals (fun j hj => (hTs j hj).1) hTI).bound, ?_, ?_, ?_, hlim4, ?_, ?_, ?_⟩
  · rintro i v ⟨hi, rfl⟩
    obtain ⟨_, f, q, tf, tq, e, _⟩ := hTs i hi
    exact ⟨_, _, e⟩
  · refine ⟨⟨_, hI4, rfl, rfl⟩, k4 _ _ haccP ha, fun k hk => ?_⟩
    obtain ⟨_, f, q, tf, tq, e, _, e2⟩ := hTs k hk
    exact ⟨_, k4 _ _ (hTP k hk) e2, rfl, _, by rw [e]⟩
  · intro b hb
    rcases List.mem_cons.mp hb with rfl | hb
    · exact hsz4 _ _ hI4
    · rcases List.mem_cons.mp hb with rfl | hb
      · exact hsz4 _ _ (k4 _ _ haccP ha)
      · obtain ⟨j, hj, rfl⟩ := List.mem_map.mp hb
        have hj := List.mem_range.mp hj
        obtain ⟨_, f, q, tf, tq, _, _, e2⟩ := hTs j hj
        exact hsz4 _ _ (k4 _ _ (hTP j hj) e2)
  · intro hm
    rcases List.mem_cons.mp hm with e | e
    · obtain ⟨mc, hn, _⟩ := T.nolimit
      exact absurd hn.lt (by rw [e]; exact Nat.lt_irrefl _)
    · cases e
  · intro href hk
    refine ⟨fun A' E' i va vb s₂ m₂ _ _ _ _ _ _ _ _ => wpAny_pure ⟨rfl, _, _, rfl, fun _ _ e => e⟩, fun A' E' i va vb u m₂ hA' hD hU hPt _ hn ma mb' hkp => ?_⟩
    obtain ⟨hi, hv⟩ := hPt
    obtain ⟨_, f, q, tf, tq, e, e1, _⟩ := hTs i hi
    rw [e] at hv
    cases hv
    have up : ∀ b o, b ≠ s.heap.objs.size → h4.get? b = some o → u.heap.get? b = some o := fun b o hb e => hkp b (List.mem_range.mpr (hsz4 _ _ e)) (by simpa using hb) o (hk b o e)
    have K0 : ∀ b o, (hd.heap_1 w.params).lookup b = some o → b ≠ s.heap.objs.size := fun b o e => Nat.ne_of_lt (Heap.lt_size (X _ _ e))
    have nsu : ∀ {a : Addr} {mm : Str → Option Value}, h4.Ns a mm → a ≠ s.heap.objs.size → u.heap.Ns a mm := fun x hne => by
      obtain ⟨o, es, ep, e, hd, r⟩ := x
      exact ⟨o, es, ep, up _ _ hne e, hd, r⟩
    exact hq _ code A' E' i f q tf tq u m₂ hA' hD hU e1 hn ma mb' (fun a o e => up _ _ (K0 a o e) (X4 a o e))
      ⟨nsu T4.g (Nat.ne_of_lt T.g.lt), nsu T4.b (Nat.ne_of_lt T.b.lt), by
        obtain ⟨mc, hn, hno⟩ := T4.nolimit
        obtain ⟨mc0, hn0, _⟩ := T.nolimit
        exact ⟨mc, nsu hn (Nat.ne_of_lt hn0.lt), hno⟩, T.builtins, T.free⟩
  · intro a h₅ tk gs hgs ha5 hs5 hk5 W St
    rw [passing_all, List.length_range] at W
    have hpl : its.size = ps.length := by simpa using hlen
    have hkk : ∀ b o, b ≠ P → s.heap.get? b = some o → h₅.get? b = some o := fun b o hb e => hk5 b o (k4 b o hb e)
    refine hQ a _ _ _ _ _ hB (fun b hb => ?_) (.head _) (fun i u x => ?_) (walksWeak W hpl fun i v hi h => ?_) St (fun u hm => ?_)
    · have e1 : @LT.lt Nat _ h4.objs.size a := ha5
      have e2 : h₅.objs.size = a + 1 := hs5
      show @LT.lt Nat _ b h₅.objs.size
      rcases List.mem_cons.mp hb with e | hb
      · rw [e, e2]; exact Nat.lt_succ_self _
      · rcases List.mem_cons.mp hb with e | hb
        · have e : b = h4.objs.size := e
          rw [e, e2]; exact Nat.lt_succ_of_lt e1
        · have hb : @LT.lt Nat _ b h4.objs.size := List.mem_range.mp hb
          rw [e2]; exact Nat.lt_succ_of_lt (Nat.lt_trans hb e1)
    · exact x.1.typeIs
    · obtain ⟨j, hj, hF⟩ := h
      rw [List.getElem?_range hi] at hj
      cases hj
      exact ⟨hpl ▸ hi, hF⟩
    · have hw : ∀ b, b < s.heap.objs.size → b < h4.objs.size → b ∉ ([h4.objs.size, s.heap.objs.size] : List Addr) := fun b h1 h2 hmem => by
        rcases List.mem_cons.mp hmem with e | hmem
        · omega
        · rcases List.mem_cons.mp hmem with e | hmem
          · omega
          · cases hmem
      refine ⟨fun b o hb e => hm.heap b o (hw b (Heap.lt_size e) (Heap.lt_size (k4 b o hb e))) (hkk b o hb e), ⟨tb', hm.heap P _ (hw P hPl (Heap.lt_size hP4)) (hk5 _ _ hP4), ht4⟩, ?_, hm.drawn, hm.os⟩
      exact AllBare.moved (hB.push hgs) hm.gens
end
example : True := by
  k_with_none
  trivial
example : True := by
  k_with "go" =>
    repeat' (first | (k_unfold; (try dsimp only)) | walk1 | (dsimp only; walk1) | fail "no step")
  trivial


structure Gd (w : World) (p : Program) (loose : List Str) (mg mb : Str → Option Value) (g : Heap) : Prop where
  K : (hd.heap_1 w.params).In g
  T : TopRead p loose mg mb g
  B : BM mg g
noncomputable def TabI (P : Addr) (h : Heap) : Prop := ∃ tb, h.get? P = some (tabObj tb) ∧ TriplesOk tb.toList

noncomputable def lens (ps : List (Str × Str)) : Nat := (ps.map fun q => q.1.length + q.2.length).sum


theorem slot_list_ga : Slot "list" "__getattribute__" "list.__getattribute__" := .of (owner := "list") (n := "__getattribute__") (by rw [typeLookup_type, builtinLookup_eq_fast]; kernel_rfl) (by decide +kernel) (by decide +kernel) (by decide +kernel)
  (by first | exact .inl (by decide +kernel) | exact .inr (by decide +kernel)) (by rw [isSubtype_type]; kernel_rfl)
theorem entry_list_ga : entryFor table "list.__getattribute__" = some Builtin.«object.__getattribute__» :=
  entryFor_alias (id' := "object.__getattribute__") (by rw [fastTable_eq_tree]; kernel_rfl) (by decide +kernel) (by decide +kernel) (by rw [fastTable_eq_tree]; kernel_rfl)

section
variable {prog : Program} {w : World} {A : Around} {E : Value → Shared → Prop} {s : Shared} {K : Frag} {x C L : Addr} {h₀ : Heap} {m : Str → Option Value} {es : List DictEntry} {n : Nat} {name : Str} {ox : Obj} {v : Value}
theorem get_sub {expr : Bool} {Q : Value → Shared → Prop} {attr : Option Value} (F : Fr h₀ L s.heap m) (X₀ : K.In h₀) (I : InstAt s.heap x ox C (some (dictOf es n)))
    (hga : findIn K (.ref C) "__getattribute__" = some (some (.builtin "list.__getattribute__"))) (hk : findIn K (.ref C) "__getattr__" = some none) (hl : subIn K (.ref C) (.type "list") = some true) (hh : hasDictIn K C = true)
    (ha : findIn K (.ref C) name = some attr) (hn : noGet K attr = true) (hg : getL name es = some (some v)) (hv : handedIn v = true) (h : Q v { s with toks := s.toks + 1 }) : wpAny (model prog w) A (getAttr (.ref x) name expr) Q E s := by
  have X := X₀.keeps F.keep
  obtain ⟨hp, g, dr, t, os⟩ := s
  have hT : Looks (model prog w) hp (typeOf (.ref x)) (.ref C) := I.type
  have hi : Looks (model prog w) hp (isInstance (.ref x) (.type "list")) true := hT.andThen (looks_subIn X hl)
  have L1 := looks_find (M := model prog w) X I (findObj_own hh ha hn (by rw [lookIn_dict]; exact hg))
  unfold getAttr getAttrBy
  refine wpAny_bind (wpAny_mkText (wpAny_holding (wpAny_bind (hT.at (wpAny_bind ((looks_findIn X hga).at ?_))))))
  show wpAny _ _ (getAttrByItsOwn (.ref x) (.str name t) (.ref C) (.builtin "list.__getattribute__") true expr) _ _ _
  unfold getAttrByItsOwn
  refine wpAny_bind (m := hookBefore (.ref C)) ?_
  show wpAny _ _ (typeLookup (.ref C) "__getattr__") _ _ _
  refine (looks_findIn X hk).at ?_
  refine wpAny_bind (wpAny_attempt (wpAny_holding ?_))
  have e : callGetattribute (.ref x) (.str name t) (.builtin "list.__getattribute__") expr = boundAndCalled (.builtin "list.__getattribute__") (.ref x) (.str name t) := by
    unfold callGetattribute
    rw [if_neg (by cases expr <;> simp [onTheHeap])]
  rw [e]
  unfold boundAndCalled
  refine wpAny_bind (wpAny_of_eq (slot_list_ga.bind _) ?_)
  refine wpAny_mono (Q := fun u s' => u = v ∧ s' = ⟨hp, g, dr, t + 1, os⟩) (E := fun _ _ => False) ?_ (fun u s' hu => ?_) fun _ _ z => z.elim
  · refine call_sub (id := "list.__getattribute__") (owner := "list") (n := "__getattribute__") (.inr (by decide +kernel)) (by decide +kernel) (by decide +kernel) entry_list_ga (by unfold argsOk; kernel_rfl) hi ?_
    unfold Builtin.«object.__getattribute__»
    refine wpAny_bind (wpAny_pure ?_)
    refine wpAny_bind (wpAny_pure (wpAny_bind (hT.at (wpAny_bind (L1.at ?_)))))
    exact wpAny_pure ⟨v, rfl, rfl, rfl⟩
  · obtain ⟨rfl, rfl⟩ := hu
    show wpAny _ _ (handedOut u) _ _ _
    rw [handedOut_of hv]; exact wpAny_pure h
end

section
variable {w : World} {A : Around} {E : Value → Shared → Prop} {u : Shared} {p : Program} {loose : List Str} {mg mb : Str → Option Value} {env : Env}
theorem evB {x : Str} {pos : Pos} {v : Value} {Q : Value → Shared → Prop} (hk : env.scope.kind = .function) (hgl : env.globals = mainGlobals) (hbi : env.builtins = builtinsNs) (hx : env.kindOf x = some .globalImplicit) (X : (hd.heap_1 w.params).In u.heap) (T : TopRead p loose mg mb u.heap)
    (e : nsIn (hd.heap_1 w.params) mainGlobals x = some none) (hv : bootBuiltins x = some v) (hn : x ≠ "__name__") (hd : (x == ("__debug__" : Str)) = false) (h : Q v u) : wpAny (model PR w) A (eval (.Name x pos) env) Q E u :=
  Name_function_global hk hx (loadGlobal_builtin (by rw [hgl]; exact T.g) (mg_none_of X T.g e) (by rw [hbi]; exact T.b) ((T.builtins x hn).trans hv) h) hd
theorem evG {x : Str} {pos : Pos} {v : Value} {Q : Value → Shared → Prop} (hk : env.scope.kind = .function) (hgl : env.globals = mainGlobals) (hx : env.kindOf x = some .globalImplicit) (X : (hd.heap_1 w.params).In u.heap) (T : TopRead p loose mg mb u.heap)
    (e : nsIn (hd.heap_1 w.params) mainGlobals x = some (some v)) (hd : (x == ("__debug__" : Str)) = false) (h : Q v u) : wpAny (model PR w) A (eval (.Name x pos) env) Q E u :=
  Name_function_global hk hx (loadGlobal_global (by rw [hgl]; exact T.g) (mg_of X T.g e) h) hd
theorem evL {x : Str} {pos : Pos} {v : Value} {m : Str → Option Value} {Q : Value → Shared → Prop} (hk : env.scope.kind = .function) (hx : env.kindOf x = some .local) (hn : u.heap.Ns env.locals m) (hv : m x = some v) (hd : (x == ("__debug__" : Str)) = false) (h : Q v u) : wpAny (model PR w) A (eval (.Name x pos) env) Q E u :=
  wpAny_Name (wpAny_loadName_local hk hx hn hv h) hd
theorem evLen {x f : Str} {t : Tok} {p1 p2 p3 : Pos} {m : Str → Option Value} {Q : Value → Shared → Prop} (hk : env.scope.kind = .function) (hgl : env.globals = mainGlobals) (hbi : env.builtins = builtinsNs) (hl : env.kindOf "len" = some .globalImplicit) (hx : env.kindOf x = some .local) (X : (hd.heap_1 w.params).In u.heap) (T : TopRead p loose mg mb u.heap)
    (e : nsIn (hd.heap_1 w.params) mainGlobals "len" = some none) (hn : u.heap.Ns env.locals m) (hv : m x = some (.str f t)) (hd : (x == ("__debug__" : Str)) = false) (hz : f.length ≤ 1000) (hs : starEach [.Name x p2] env = (false, eval (.Name x p2) env) :: starEach [] env)
    (h : ∀ tk tk', Q (.int f.length tk') { u with toks := tk }) : wpAny (model PR w) A (eval (.Call (.Name "len" p1) [.Name x p2] [] p3) env) Q E u := by
  refine wpAny_Call_NameR (evB hk hgl hbi hl X T e (by boot_by_name) (by decide) (by decide) ?_)
  rw [hs]
  refine callWith_builtin rfl (evalArgs_plain (spliced_cons (evL hk hx hn hv hd ?_)))
  exact spliced_nil (PyProof.Rows.len_str (by omega) (h _ _))
end
example : True := by
  k_with "getAttr ref" =>
    (k_here; k_dflt (refine' get_sub ?qk1z ?qk2z ?qk3z ?qk4z ?qk5z ?qk6z ?qk7z ?qk8z ?qk9z ?qk10z ?qk11z ?_; (case qk1z => k_asm); (case qk2z => k_asm); (case qk3z => k_inst); (case qk4z => k_is); (case qk5z => k_is); (case qk6z => k_is); (case qk7z => k_is); (case qk8z => k_is); (case qk9z => k_is); (case qk10z => k_get); (case qk11z => k_handed); k_whole))
  trivial


set_option pp.maxSteps 3000 in
theorem len_spec {w : World} {A : Around} {s : Shared} {g : Heap} {p : Program} {loose : List Str} {mg mb : Str → Option Value} {acc d : Addr} {its : Array Value} {n : Nat} {Q E : Value → Shared → Prop} {ps : List (Str × Str)} {hs : Int} {tn ti : Tok} {ne : Nat}
    (G : Gd w p loose mg mb g) (st : g.StaysIn s.heap) (ha : s.heap.get? acc = some (accObj d its n)) (hga : g.get? acc = none) (hdd : s.heap.get? d = some (accDict hs tn ti ne)) (hgd : g.get? d = none) (hp : Parts s.heap its.toList ps) (hT : TabI 157 s.heap) (hgT : g.get? 157 = none)
    (hh : A.handled = none) (hr : A.depth + 2 < recursionLimit) (hB : AllBare s.gens) (hz : ps.length ≤ 1000) (hz2 : ∀ q ∈ ps, q.1.length ≤ 1000 ∧ q.2.length ≤ 1000)
    (h : ∀ h' gs tk tk', TabI 157 h' → AllBare gs → (∀ b o, b ≠ 157 → s.heap.get? b = some o → h'.get? b = some o) → Q (.int (lens ps) tk') ⟨h', gs, s.drawn, tk, s.os⟩) :
    wpAny (model PR w) A (call (.ref 162) [.ref acc]) Q E s := by
  obtain ⟨tb, hP, htr⟩ := hT
  refine wpAny_call ?_
  refine' enter (binds := [("self", .ref acc)]) (led := [(157, tabObj tb), (acc, accObj d its n), (d, accDict hs tn ti ne)]) G.K G.T st ?hl ?ho ?hcd (by omega) ?hb ?hloc ?_ ?hcell ?hco ?hgen ?hk
  case hl => simp only [List.forall_mem_cons, hP, hgT, ha, hga, hdd, hgd, and_self, List.not_mem_nil, false_imp_iff, implies_true]
  case ho => k_is
  case hcd => k_is
  case hb => exact BindsTo.of_eq rfl
  case hloc => rfl
  case hcell => decide
  case hco => rfl
  case hgen => rfl
  case hk => rfl
  intro g' h₁ kp st' kp₁ F' N' X' T'
  k_extra "go"
  have k₁ : ∀ b o, g'.get? b = some o → h₁.get? b = some o := F'.keep
  have hx1 : h₁.get? acc = some (accObj d its n) := (N' _ (by k_mem : (acc, accObj d its n) ∈ _)).1
  have hd1 : h₁.get? d = some (accDict hs tn ti ne) := (N' _ (by k_mem : (d, accDict hs tn ti ne) ∈ _)).1
  have hp1 : Parts h₁ its.toList ps := hp.keeps fun b o e ⟨a, b', q⟩ => F'.keep _ _ (kp _ _ e (by subst q; simp only [List.map_cons, List.map_nil, List.mem_cons, List.not_mem_nil, or_false]; rintro (rfl | rfl | rfl) <;> simp_all))
  have hC : CodeHd h₁ 161 157 := codeHd_of_K (X'.keeps F'.keep) (by kernel_rfl)
  have hP1 := (N' _ (by k_mem : (157, tabObj tb) ∈ _)).1
  have hLP : s.heap.objs.size ≠ 157 := Nat.ne_of_gt (Heap.lt_size hP)
  refine genAcc (F := fun i y => ∃ t, y = .int ((ps.getD i default).1.length + (ps.getD i default).2.length) t) hh (X'.keeps F'.keep) (T'.keeps F'.keep) ((G.B.keeps st').keeps F'.keep) hx1 hp1 rfl hC hP1 htr (by kernel_rfl) (by decide) (by decide) (by decide) rfl rfl rfl rfl (by decide) rfl rfl rfl rfl (show A.depth + 1 < recursionLimit by omega) ?hev ?hq ?hQ hB (fun _ => rfl)
  case hev => intro Q' hq; exact ld F' rfl hq
  case hq =>
    intro L code A' E' i f q tf tq u m₂ hA' hD hU hi hn ma mb' Xu Tu
    have hm : (f, q) ∈ ps := List.mem_of_getElem? hi
    refine wpAny_BinOp (evLen rfl rfl rfl rfl rfl Xu Tu (by k_is) hn ma (by decide) (hz2 _ hm).1 rfl fun tk1 tk2 => ?_)
    refine evLen rfl rfl rfl rfl rfl Xu Tu (by k_is) hn mb' (by decide) (hz2 _ hm).2 rfl fun tk3 tk4 => ?_
    refine add_int ?_
    refine ⟨?_, _, _, rfl, fun _ _ e => e⟩
    rw [show ps.getD i default = (f, q) from by rw [List.getD_eq_getElem?_getD, hi]; rfl]
    exact ⟨_, rfl⟩
  case hQ =>
    intro a s₅ fp wr Gr St hB5 hfp hafp hgen W hst hmv
    obtain ⟨fr5, ⟨tb5, hP5, ht5⟩, hb5, hd5, ho5⟩ := hmv s₅ (Moved.refl W.grefl)
    have F5 : Fr g' s.heap.objs.size s₅.heap _ := ⟨F'.ns.at' fun o e => fr5 _ o hLP e, fun b o e => fr5 b o (fun q => by have := (N' _ (by k_mem : (157, tabObj tb) ∈ _)).2.2; rw [← q, e] at this; cases this) (F'.keep b o e), F'.above⟩
    have hx5 := fr5 _ _ (fun q => by rw [q, hP1] at hx1; cases hx1) hx1
    have hdd5 := fr5 _ _ (fun q => by rw [q, hP1] at hd1; cases hd1) hd1
    have N5 : News g' s.heap.objs.size s₅.heap [(acc, accObj d its n), (d, accDict hs tn ti ne)] := by
      have a1 := N' _ (by k_mem : (acc, accObj d its n) ∈ _)
      have a2 := N' _ (by k_mem : (d, accDict hs tn ti ne) ∈ _)
      simp only [News, List.forall_mem_cons, List.not_mem_nil, false_imp_iff, implies_true, and_true]
      exact ⟨⟨hx5, a1.2⟩, hdd5, a2.2⟩
    clear F' N'
    obtain ⟨hp5, gs5, dr5, tk5, os5⟩ := s₅
    k_extra "go"
    have W1 := W.of_in1.of_in1.of_in1
    have st1 := W1.frame 0 _ _ (tk5 + 1) hst (Nat.le_succ _) fun b _ o e => e
    refine sum_start (W1.self 0 _ _ _ st1 ?_)
    have val0 : ∀ j, j < ps.length → ∃ q ∈ ps, ps.getD j default = q := fun j hj => ⟨_, List.getElem_mem hj, by rw [List.getD_eq_getElem?_getD, List.getElem?_eq_getElem hj]; rfl⟩
    have pre : ∀ j, j ≤ ps.length → preSum (fun j => ((ps.getD j default).1.length + (ps.getD j default).2.length : Int)) j = lens (ps.take j) := fun j => by
      induction j with
      | zero => intro _; rfl
      | succ j ih =>
        intro hj
        rw [preSum, ih (by omega), lens, lens, List.take_add_one, List.map_append, List.sum_append, List.getElem?_eq_getElem (by omega)]
        rw [show ps.getD j default = ps[j] from by rw [List.getD_eq_getElem?_getD, List.getElem?_eq_getElem (by omega)]; rfl]
        simp
    have bd : ∀ (l : List (Str × Str)), (∀ q ∈ l, q.1.length ≤ 1000 ∧ q.2.length ≤ 1000) → lens l ≤ 2000 * l.length := fun l => by
      induction l with
      | nil => intro _; exact Nat.le_refl _
      | cons q r ih =>
        intro hq
        have h1 := hq q (.head _)
        have h2 := ih fun x hx => hq x (.tail _ hx)
        simp only [lens, List.map_cons, List.sum_cons, List.length_cons] at h2 ⊢
        omega
    refine ⟨a, fp, wr, Gr, ps.length, _, _, fun j => ((ps.getD j default).1.length + (ps.getD j default).2.length : Int), rfl, W1, st1, hfp, fun i v hv => hv.2, fun j hj => ?_, fun s' t' hm => ?_⟩
    · obtain ⟨q, hq, e⟩ := val0 j hj
      have h1 := hz2 q hq
      have h2 := bd (ps.take (j + 1)) fun x hx => hz2 x (List.mem_of_mem_take hx)
      have h3 : (ps.take (j + 1)).length ≤ 1000 := by rw [List.length_take]; omega
      rw [pre (j + 1) (by omega)]
      simp only [e]
      unfold InLong
      constructor <;> constructor <;> omega
    · rw [pre _ (Nat.le_refl _), List.take_length]
      obtain ⟨fr6, t6, b6, d6, o6⟩ := hmv s' ((Moved.refl W.grefl).then_heap (Nat.le_succ tk5) (fun b o _ e => e) |>.trans W.gtrans hm)
      obtain ⟨hp6, gs6, dr6, tk6, os6⟩ := s'
      dsimp only at d6 o6
      subst d6 o6
      refine h _ _ _ _ t6 b6 fun b o hb e => fr6 b o hb (kp₁ b o e)
example : True := by
  k_with_none
  trivial
example : True := by
  k_with "go" =>
    repeat' (first | (k_unfold; (try dsimp only)) | walk1 | (dsimp only; walk1) | fail "no step")
  trivial


noncomputable def cat2 (q : Str × Str) : Str := Txt.join "" [q.1, q.2]
noncomputable def catParts (ps : List (Str × Str)) : Str := Txt.join "" (ps.map cat2)
theorem cat2_length (q : Str × Str) : (cat2 q).length = q.1.length + q.2.length := by
  have e0 : (Str.ofString "").length = 0 := rfl
  have := PySem.size_glued "" [q.1, q.2]
  simp only [List.map_cons, List.map_nil, List.sum_cons, List.sum_nil, e0] at this
  show (Builtin.Str.glued "" [q.1, q.2]).length = _
  rw [this]
  omega
set_option pp.maxSteps 3000 in
theorem str_spec {w : World} {A : Around} {s : Shared} {g : Heap} {p : Program} {loose : List Str} {mg mb : Str → Option Value} {acc d : Addr} {its : Array Value} {n : Nat} {Q E : Value → Shared → Prop} {ps : List (Str × Str)} {hs : Int} {tn ti : Tok} {ne : Nat}
    (G : Gd w p loose mg mb g) (st : g.StaysIn s.heap) (ha : s.heap.get? acc = some (accObj d its n)) (hga : g.get? acc = none) (hdd : s.heap.get? d = some (accDict hs tn ti ne)) (hgd : g.get? d = none) (hp : Parts s.heap its.toList ps) (hT : TabI 164 s.heap) (hgT : g.get? 164 = none)
    (hh : A.handled = none) (hr : A.depth + 2 < recursionLimit) (hB : AllBare s.gens) (hz : ps.length ≤ 1000) (hz2 : ∀ q ∈ ps, q.1.length ≤ 1000 ∧ q.2.length ≤ 1000)
    (h : ∀ h' gs tk tk', TabI 164 h' → AllBare gs → (∀ b o, b ≠ 164 → s.heap.get? b = some o → h'.get? b = some o) → Q (.str (catParts ps) tk') ⟨h', gs, s.drawn, tk, s.os⟩) :
    wpAny (model PR w) A (call (.ref 169) [.ref acc]) Q E s := by
  obtain ⟨tb, hP, htr⟩ := hT
  refine wpAny_call ?_
  refine' enter (binds := [("self", .ref acc)]) (led := [(164, tabObj tb), (acc, accObj d its n), (d, accDict hs tn ti ne)]) G.K G.T st ?hl ?ho ?hcd (by omega) ?hb ?hloc ?_ ?hcell ?hco ?hgen ?hk
  case hl => simp only [List.forall_mem_cons, hP, hgT, ha, hga, hdd, hgd, and_self, List.not_mem_nil, false_imp_iff, implies_true]
  case ho => k_is
  case hcd => k_is
  case hb => exact BindsTo.of_eq rfl
  case hloc => rfl
  case hcell => decide
  case hco => rfl
  case hgen => rfl
  case hk => rfl
  intro g' h₁ kp st' kp₁ F' N' X' T'
  k_extra "go"
  have hx1 : h₁.get? acc = some (accObj d its n) := (N' _ (by k_mem : (acc, accObj d its n) ∈ _)).1
  have hd1 : h₁.get? d = some (accDict hs tn ti ne) := (N' _ (by k_mem : (d, accDict hs tn ti ne) ∈ _)).1
  have hp1 : Parts h₁ its.toList ps := hp.keeps fun b o e ⟨a, b', q⟩ => F'.keep _ _ (kp _ _ e (by subst q; simp only [List.map_cons, List.map_nil, List.mem_cons, List.not_mem_nil, or_false]; rintro (rfl | rfl | rfl) <;> simp_all))
  have hC : CodeHd h₁ 168 164 := codeHd_of_K (X'.keeps F'.keep) (by kernel_rfl)
  have hP1 := (N' _ (by k_mem : (164, tabObj tb) ∈ _)).1
  have hLP : s.heap.objs.size ≠ 164 := Nat.ne_of_gt (Heap.lt_size hP)
  refine genAcc (F := fun i y => ∃ t, y = .str (cat2 (ps.getD i default)) t) hh (X'.keeps F'.keep) (T'.keeps F'.keep) ((G.B.keeps st').keeps F'.keep) hx1 hp1 rfl hC hP1 htr (by kernel_rfl) (by decide) (by decide) (by decide) rfl rfl rfl rfl (by decide) rfl rfl rfl rfl (show A.depth + 1 < recursionLimit by omega) ?hev ?hq ?hQ hB (fun _ => rfl)
  case hev => intro Q' hq; exact ld F' rfl hq
  case hq =>
    intro L code A' E' i f q tf tq u m₂ hA' hD hU hi hn ma mb' Xu Tu
    have hm : (f, q) ∈ ps := List.mem_of_getElem? hi
    refine MethodCall_ (evG rfl rfl rfl Xu Tu (by k_is) (by decide) ?_)
    with_reducible refine getMethod_builtin (typeIs_str _ _ _) F.plainAttrs_str F.slot_str_join F.type_str_join (fun a e => nomatch e) ?_
    refine callWith_builtin rfl (evalArgs_plain (spliced_cons ?_))
    refine wpAny_Tuple (k := 0) ?_
    refine spliced_cons (evL rfl rfl hn ma (by decide) ?_)
    refine spliced_cons (evL rfl rfl hn mb' (by decide) ?_)
    refine spliced_nil ⟨by rw [sizeLine_eq]; simp, spliced_nil ?_⟩
    have z := hz2 _ hm
    refine join_tuple (ys := [f, q]) ⟨_, Heap.get?_push_size _ rfl, rfl, _, rfl⟩ (.cons _ _ (.cons _ _ .nil)) (by have e0 : (Str.ofString "").length = 0 := rfl; have z1 := z.1; have z2 := z.2; dsimp only at z1 z2; simp only [e0, List.map_cons, List.map_nil, List.sum_cons, List.sum_nil]; omega) fun t' k => ?_
    refine ⟨?_, _, _, rfl, fun _ _ e => Heap.get?_push_of_some _ e⟩
    rw [show ps.getD i default = (f, q) from by rw [List.getD_eq_getElem?_getD, hi]; rfl]
    exact ⟨_, rfl⟩
  case hQ =>
    intro a s₅ fp wr Gr St hB5 hfp hafp hgen W hst hmv
    obtain ⟨fr5, ⟨tb5, hP5, ht5⟩, hb5, hd5, ho5⟩ := hmv s₅ (Moved.refl W.grefl)
    have F5 : Fr g' s.heap.objs.size s₅.heap _ := ⟨F'.ns.at' fun o e => fr5 _ o hLP e, fun b o e => fr5 b o (fun q => by have := (N' _ (by k_mem : (164, tabObj tb) ∈ _)).2.2; rw [← q, e] at this; cases this) (F'.keep b o e), F'.above⟩
    clear F' N'
    obtain ⟨hp5, gs5, dr5, tk5, os5⟩ := s₅
    k_extra "go"
    have W1 := W.of_in1.of_in1
    have val0 : ∀ j, j < ps.length → ∃ q ∈ ps, ps.getD j default = q := fun j hj => ⟨_, List.getElem_mem hj, by rw [List.getD_eq_getElem?_getD, List.getElem?_eq_getElem hj]; rfl⟩
    refine SC.joinGen W1 hgen hst hfp hafp (fun i v hv => ⟨_, hv.2⟩) (fun s' l hm hl => ?_) (by have : sizeLine = 16777216 := sizeLine_eq; omega)
    have hll : l.map (·.1) = ps.map cat2 := by
      have hl1 : l.length = ps.length := by have := hl.1; simpa [strValues] using this
      refine List.ext_getElem (by simp [hl1]) fun j h1 h2 => ?_
      have hj : j < l.length := by simpa using h1
      obtain ⟨_, t, e⟩ := hl.2 j (.str l[j].1 l[j].2) (by simp [strValues, List.getElem?_eq_getElem hj])
      injection e with e1 e2
      rw [List.getElem_map, List.getElem_map, e1, List.getD_eq_getElem?_getD, List.getElem?_eq_getElem (by omega : j < ps.length)]
      rfl
    rw [hll]
    refine ⟨joinOk_of ?_, fun t' k => ?_⟩
    · have e0 : (Str.ofString "").length = 0 := rfl
      have bd : ∀ (l : List (Str × Str)), (∀ q ∈ l, q.1.length ≤ 1000 ∧ q.2.length ≤ 1000) → ((l.map cat2).map (·.length)).sum ≤ 2000 * l.length := fun l => by
        induction l with
        | nil => intro _; exact Nat.le_refl _
        | cons q r ih =>
          intro hq
          have h1 := hq q (.head _)
          have h2 := ih fun x hx => hq x (.tail _ hx)
          have h3 := cat2_length q
          simp only [List.map_cons, List.sum_cons, List.length_cons] at h2 ⊢
          omega
      have := bd ps hz2
      rw [e0]
      omega
    · obtain ⟨fr6, t6, b6, d6, o6⟩ := hmv s' hm
      obtain ⟨hp6, gs6, dr6, tk6, os6⟩ := s'
      dsimp only at d6 o6
      subst d6 o6
      exact h _ _ _ _ t6 b6 fun b o hb e => fr6 b o hb (kp₁ b o e)
example : True := by
  k_with_none
  trivial
example : True := by
  k_with "go" =>
    repeat' (first | (k_unfold; (try dsimp only)) | walk1 | (dsimp only; walk1) | fail "no step")
  trivial

example : True := by
  k_with "getMethod ref" =>
    (k_here; k_dflt (refine' method_sub ?qk1z ?qk2z ?qk3z ?qk4z ?qk5z ?qk6z ?qk7z ?qk8z ?_; (case qk1z => k_asm); (case qk2z => k_asm); (case qk3z => k_inst); (case qk4z => k_is); (case qk5z => k_is); (case qk6z => k_is); (case qk7z => kernel_rfl); (case qk8z => k_get); k_whole))
  trivial


section
variable {g h h' : Heap} {L : Addr} {m : Str → Option Value} {led led' : List (Addr × Obj)} {l : List Addr}
theorem fr_after (F : Fr g L h m) (k : ∀ b o, b ∉ l → h.get? b = some o → h'.get? b = some o) (hl : ∀ a ∈ l, g.get? a = none ∧ @Ne Nat a L) : Fr g L h' m :=
  ⟨F.ns.at' fun o e => k _ o (fun q => (hl _ q).2 rfl) e, fun b o e => k b o (fun q => by rw [(hl _ q).1] at e; cases e) (F.keep b o e), F.above⟩
theorem fr_all (F : Fr g L h m) (k : ∀ b o, h.get? b = some o → h'.get? b = some o) : Fr g L h' m := ⟨F.ns.at' fun o e => k _ o e, fun b o e => k b o (F.keep b o e), F.above⟩
theorem news_all (N : News g L h led) (k : ∀ b o, h.get? b = some o → h'.get? b = some o) : News g L h' led := fun q hq => ⟨k _ _ (N q hq).1, (N q hq).2⟩
end

section
variable {prog : Program} {w : World} {A : Around} {E : Value → Shared → Prop} {h : Heap} {g : Array GenState} {dr : Drawn} {t : Nat} {os : OsState} {x d : Addr} {its : Array Value} {n : Nat}
theorem upd_acc {f : Array Value → Array Value} {Q : Unit → Shared → Prop} (hx : h.get? x = some (accObj d its n)) (hz : its.size ≤ 1001) (hz' : (f its).size ≤ 1001)
    (hq : ∀ h' n', h'.get? x = some (accObj d (f its) n') → (∀ b o, b ≠ x → h.get? b = some o → h'.get? b = some o) → Q () ⟨h', g, dr, t, os⟩) : wpAny (model prog w) A (updateSeq x f) Q E ⟨h, g, dr, t, os⟩ := by
  refine wpAny_updateSeq hx rfl ?_ (hz := by rw [sizeLine_eq]; omega) (_hz' := by rw [sizeLine_eq]; omega)
  exact hq _ _ (Heap.get?_update_self _ hx rfl) fun b o hb e => (Heap.SameBut.update _ _ _).extBut b o hb e
theorem body_pop {y : Value} {Q : Fin → Shared → Prop} (hx : h.get? x = some (accObj d (its.push y) n)) (hz : its.size ≤ 1000)
    (hq : ∀ h' n', h'.get? x = some (accObj d its n') → (∀ b o, b ≠ x → h.get? b = some o → h'.get? b = some o) → Q (.done (.ret y)) ⟨h', g, dr, t, os⟩) : wpAny (model prog w) A (Builtin.«list.pop» ⟨[.ref x], []⟩) Q E ⟨h, g, dr, t, os⟩ := by
  unfold Builtin.«list.pop»
  refine wpAny_bind (wpAny_of_eq (a := (Value.ref x, [])) (by kernel_rfl) ?_)
  dsimp only
  refine wpAny_bind (wpAny_pure ?_)
  rw [if_neg (by decide +kernel)]
  refine wpAny_bind ?_
  show wpAny _ _ (seqItems? (.ref x) >>= _) _ _ _
  refine wpAny_bind (wpAny_seqItems hx rfl ?_)
  refine wpAny_pure ?_
  have e1 : (its.push y).isEmpty = false := by simp
  have e2 : PySem.seqIndex? (-1) (its.push y).size = some its.size := by
    unfold PySem.seqIndex?
    simp
    omega
  simp only [e1, e2, Bool.false_eq_true, if_false, Option.bind_some, Array.getElem?_push_size, Option.map_some]
  show wpAny _ _ (updateSeq x _ >>= _) _ _ _
  refine wpAny_bind (upd_acc hx (by rw [Array.size_push]; omega) (by rw [Array.eraseIdxIfInBounds]; split <;> simp <;> omega) fun h' n' a b => ?_)
  have e3 : (its.push y).eraseIdxIfInBounds its.size = its := by
    rw [Array.eraseIdxIfInBounds, dif_pos (by simp)]
    apply Array.ext'
    simp
    rw [List.eraseIdx_append_of_length_le (by simp)]
    simp
  rw [e3] at a
  exact wpAny_pure (hq _ _ a b)
theorem sig_pop : Manifest.signature? "list.pop" = some ⟨.positional, "list.pop", "pop", .self, [⟨"index", .posOnly, false⟩]⟩ := by kernel_rfl
theorem ck_pop {M : Model} {h : Heap} {x d : Addr} {its : Array Value} {n : Nat} (hx : h.get? x = some (accObj d its n)) {K : Frag} (X : K.In h) (hm : subIn K (.ref 195) (.type "module") = some false) {cd : ClassData} (hD : clsIn K 195 = some cd) (hT : typeIn K (.ref 195) = some (.type "type")) (hq : cd.qualname = "_Accumulator") : Looks M h (checkBoundCall "list.pop" ⟨[.ref x], []⟩) () := by
  have hk : builtinKind "list.pop" = some .method := by decide +kernel
  have hi : Looks M h (isInstance (.ref x) (.type "module")) false := ((Looks.ld (part := none) hx).andThen (Looks.now (a := Value.ref 195))).andThen (looks_subIn X hm)
  have ht : Looks M h (isType (.ref x)) false := (Looks.ld (part := none) hx).andThen .now
  have hv : Manifest.varargsMethods.contains "list.pop" = false := by decide +kernel
  unfold checkBoundCall
  rw [sig_pop, hk]
  dsimp only
  rw [if_neg (by decide +kernel)]
  refine hi.andThen ?_
  rw [hv]
  simp only [Bool.or_self, Bool.false_eq_true, if_false]
  refine ht.andThen ?_
  simp only [Bool.false_eq_true, if_false]
  refine ((Looks.ld (part := none) hx).andThen (Looks.now (a := Value.ref 195))).andThen ?_
  dsimp only
  refine (looks_clsIn X hD).andThen ((looks_typeIn X hT).andThen ?_)
  rw [if_pos (by decide +kernel)]
  rw [hq]
  exact Looks.of_pure (by kernel_rfl)
end
set_option pp.maxSteps 2000 in
theorem pop_spec {w : World} {A : Around} {s : Shared} {g : Heap} {p : Program} {loose : List Str} {mg mb : Str → Option Value} {acc d : Addr} {its : Array Value} {n : Nat} {Q E : Value → Shared → Prop} {hs : Int} {tn ti : Tok} {ne : Nat} {y : Value}
    (X : (hd.heap_1 w.params).In g) (T : TopRead p loose mg mb g) (st : g.StaysIn s.heap) (ha : s.heap.get? acc = some (accObj d (its.push y) n)) (hga : g.get? acc = none) (hdd : s.heap.get? d = some (accDict hs tn ti ne)) (hgd : g.get? d = none)
    (hr : A.depth + 1 < recursionLimit) (hz : its.size ≤ 1000)
    (h : ∀ h' n' tk, h'.get? acc = some (accObj d its n') → (∀ b o, b ≠ acc → s.heap.get? b = some o → h'.get? b = some o) → Q y { s with heap := h', toks := tk }) :
    wpAny (model PR w) A (call (.ref 155) [.ref acc]) Q E s := by
  have hne : @Ne Nat acc d := fun q => by rw [q, hdd] at ha; cases ha
  refine wpAny_call ?_
  refine' enterAt (binds := [("self", .ref acc)]) (led := [(acc, accObj d (its.push y) n), (d, accDict hs tn ti ne)]) X T st ?hl ?ho ?hcd (by omega) ?hb ?hloc ?_ ?hcell ?hco ?hgen ?hk
  case hl => simp only [List.forall_mem_cons, ha, hga, hdd, hgd, and_self, List.not_mem_nil, false_imp_iff, implies_true]
  case ho => k_is
  case hcd => k_is
  case hb => exact BindsTo.of_eq rfl
  case hloc => rfl
  case hcell => decide
  case hco => rfl
  case hgen => rfl
  case hk => rfl
  intro g' h₁ kp st' kp₁ F' N' X' T'
  refine ks_wpAt_execs_cons (ks_wpAt_If (wpAt_of_any (wpAny_mono (Q := fun b s₁ => b = false ∧ ∃ h3 tk3, s₁ = { s with heap := h3, toks := tk3 } ∧ ∀ b o, h₁.get? b = some o → h3.get? b = some o) (E := fun _ _ => False) ?_ ?_ fun _ _ z => z)))
  · k_extra "go"
    refine part_count_spec X' T' F'.keep (N' _ (List.Mem.head _)).1 (show A.depth + 1 < recursionLimit by omega) fun h2 tk tk' k2 => ?_
    have F2 := fr_all F' k2
    have N2 := news_all N' k2
    clear F' N'
    rw [show ((its.push y).size : Int) = its.size + 1 from by simp]
    k_extra "go"
    exact k2 _ _ (by assumption)
  · rintro b s₁ ⟨rfl, h3, tk3, rfl, k3⟩
    have F3 := fr_all F' k3
    have N3 := news_all N' k3
    clear F' N'
    have hx3 := (N3 _ (List.Mem.head _)).1
    rw [if_neg (by decide)]
    refine wpAt_of_any (wpAny_execs_nil ?_)
    dsimp only
    refine ks_wpAt_execs_cons (ks_wpAt_Return_some ?_)
    refine' super_expr F3 X' T' hx3 rfl rfl ?hf ?hp ?hv ?hcode ?hvs ?hfile ?hcell ?hD ?hself ?hlist ?hsuper ?hop ?hat ?hks ?hkc ?hka ?hk ?htop ?hboot ?hm ?hT ?hg (.inr rfl) ?hget ?hpl entry_lpop ?hck ?hc
    case hf => k_is
    case hp => exact rfl
    case hv => exact rfl
    case hcode => k_is
    case hvs => exact rfl
    case hfile => first | rfl | decide +kernel
    case hcell => k_is
    case hD => k_is
    case hself => k_is
    case hlist => k_is
    case hsuper => k_is
    case hop => k_is
    case hat => decide
    case hks => rfl
    case hkc => rfl
    case hka => rfl
    case hk => rfl
    case htop => decide +kernel
    case hboot => first | boot_by_name | rfl | kernel_rfl
    case hm => ks_is
    case hT => k_is
    case hg => k_is
    case hget => intro h g dd t os A E Q' Xh hx hq; exact mdget Xh hx rfl rfl (by k_is) hq
    case hpl => decide +kernel
    case hck => intro h Xh hx; exact ck_pop hx Xh (by k_is) (by k_is) (by k_is) rfl
    case hc =>
      intro h' tk k
      refine body_pop (k _ _ hx3) hz fun h4 n4 a4 b4 => ⟨_, rfl, ?_⟩
      exact h _ _ _ a4 fun b o hb e => b4 b o hb (k _ _ (k3 _ _ (kp₁ _ _ e)))
section
variable {prog : Program} {w : World} {A : Around} {E : Value → Shared → Prop} {s : Shared} {K : Frag} {x d : Addr} {its : Array Value} {n : Nat}
theorem upd_congr {h : Heap} {x : Addr} {o : Obj} {f f' : Obj → Obj} (hx : h.get? x = some o) (e : f o = f' o) : h.update x f = h.update x f' := by
  obtain ⟨objs, l⟩ := h
  have hx' : objs[x]? = some o := by
    unfold Heap.get? at hx
    split at hx
    · cases hx
    · exact hx
  show Heap.mk (objs.modify x f) l = Heap.mk (objs.modify x f') l
  congr 1
  apply Array.ext_getElem?
  intro i
  rw [Array.getElem?_modify, Array.getElem?_modify]
  by_cases q : x = i
  · subst q
    simp [hx', e]
  · simp [q]
theorem isList_acc (hx : s.heap.get? x = some (accObj d its n)) (X : K.In s.heap) (hl : subIn K (.ref 195) (.type "list") = some true) : Looks (model prog w) s.heap (isInstance (.ref x) (.type "list")) true :=
  ((Looks.ld (part := none) hx).andThen (Looks.now (a := Value.ref 195))).andThen (looks_subIn X hl)
theorem typeOf_acc (hx : s.heap.get? x = some (accObj d its n)) : Looks (model prog w) s.heap (typeOf (.ref x)) (.ref 195) := (Looks.ld hx).andThen .now
theorem special_acc {name : Str} {id : String} {args : List Value} {Q : Option Value → Shared → Prop} (X : K.In s.heap) (hx : s.heap.get? x = some (accObj d its n)) (hf : findIn K (.ref 195) name = some (some (.builtin id)))
    (hb : ∀ v, bindSpecial (.builtin id) v = pure (.builtin id, [v])) (hc : wpAny (model prog w) A (call (.builtin id) (.ref x :: args)) (fun v => Q (some v)) E s) : wpAny (model prog w) A (callSpecial? (.ref x) name args) Q E s := by
  unfold callSpecial? specialOf
  refine wpAny_bind (wpAny_bind ((typeOf_acc hx).here ((looks_findIn X hf).here ?_)))
  dsimp only
  rw [hb]
  exact wpAny_holding (wpAny_bind (wpAny_pure (wpAny_bind (wpAny_mono hc (fun v s' h' => wpAny_pure h') fun _ _ h' => h'))))
theorem key_acc {k : Value} {name : Str} {Q : Value → Shared → Prop} (X : K.In s.heap) (hx : s.heap.get? x = some (accObj d its n)) (hs : subIn K (.ref 195) (.type "collections.deque") = some false) (h : Q k s) : wpAny (model prog w) A (sequenceKey (.ref x) k name) Q E s := by
  unfold sequenceKey
  refine wpAny_bind ((typeOf_acc hx).here ?_)
  dsimp only
  unfold seqItemTypes
  refine wpAny_bind ?_
  show wpAny _ _ (isSubtype (.ref 195) (.type "collections.deque") >>= _) _ _ _
  refine wpAny_bind ((looks_subIn X hs).here ?_)
  refine wpAny_pure ?_
  exact wpAny_pure h
theorem slice_acc {sl : Addr} {vl vu : Value} {lo hi : Option Int} {Q : Value → Shared → Prop} (X : K.In s.heap) (hx : s.heap.get? x = some (accObj d its n)) (hf : findIn K (.ref 195) "__getitem__" = some (some (.builtin "list.__getitem__"))) (hsd : subIn K (.ref 195) (.type "collections.deque") = some false) (hl : subIn K (.ref 195) (.type "list") = some true)
    (hs : s.heap.IsSliceOf sl vl vu .none) (pl : IsPart vl lo) (pu : IsPart vu hi)
    (h : ∀ l h', l = s.heap.objs.size → h' = s.heap.push { cls := .type "list", data := .seq (slicePick its lo hi none) } → Q (.ref l) { s with heap := h' })
    (hsz : its.size ≤ 1001) : wpAny (model prog w) A (getItem (.ref x) (.ref sl)) Q E s := by
  obtain ⟨os, hos, hcs, hds⟩ := id hs
  have hTs : s.TypeIs (.ref sl) "slice" := ⟨os, hos, hcs⟩
  unfold getItem
  refine wpAny_holding (wpAny_bind (key_acc X hx hsd ?_))
  refine wpAny_bind (special_acc X hx hf slot_list_getitem.bind ?_)
  refine call_sub (id := "list.__getitem__") (owner := "list") (n := "__getitem__") (.inl (by decide +kernel)) (by decide +kernel) (by decide +kernel) entry_list_getitem (args_list_getitem _ _) (isList_acc hx X hl) ?_
  show wpAny _ _ (Builtin.List.listSubscript? (.ref sl) >>= _) _ _ s
  refine wpAny_bind ?_
  unfold Builtin.List.listSubscript?
  refine wpAny_bind (wpAny_specialOf hTs slice_no_index ?_)
  simp only [Option.isNone_none, if_true]
  refine wpAny_pure ?_
  show wpAny _ _ (typeOf (.ref sl) >>= _) _ _ s
  refine wpAny_bind (wpAny_typeOf hTs ?_)
  rw [if_neg (by decide)]
  rw [listSliceParts_eq]
  refine wpAny_bind (wpAny_bind (wpAny_field hos hds (x := .none) rfl (wpAny_bind (wpAny_listPart .none ?_))))
  rw [if_neg (by exact Bool.false_ne_true)]
  refine wpAny_bind (wpAny_field hos hds (x := vl) rfl (wpAny_bind (wpAny_listPart pl ?_)))
  refine wpAny_bind (wpAny_field hos hds (x := vu) rfl (wpAny_bind (wpAny_listPart pu (wpAny_pure ?_))))
  refine wpAny_bind (m := Builtin.List.listItems (.ref x)) ?_
  unfold Builtin.List.listItems
  refine wpAny_bind (wpAny_seqItems hx rfl (wpAny_pure ?_))
  refine wpAny_bind (wpAny_of_eq (sliceIndices_raw lo hi none its.size (by simp)) ?_)
  refine wpAny_bind (wpAny_newObj_type (wpAny_pure ⟨_, rfl, wpAny_pure (h _ _ rfl rfl)⟩) (Nat.le_trans (slicePick_size_le its lo hi none) (by rw [sizeLine_eq]; omega)))
theorem item_acc {k : Int} {u : Tok} {y : Value} {Q : Value → Shared → Prop} (X : K.In s.heap) (hx : s.heap.get? x = some (accObj d its n)) (hf : findIn K (.ref 195) "__getitem__" = some (some (.builtin "list.__getitem__"))) (hsd : subIn K (.ref 195) (.type "collections.deque") = some false) (hl : subIn K (.ref 195) (.type "list") = some true)
    (h0 : 0 ≤ k) (hfit : k < 2 ^ 63) (hk : its[k.toNat]? = some y) (h : Q y s) : wpAny (model prog w) A (getItem (.ref x) (.int k u)) Q E s := by
  unfold getItem
  refine wpAny_holding (wpAny_bind (key_acc X hx hsd ?_))
  refine wpAny_bind (special_acc X hx hf slot_list_getitem.bind ?_)
  refine call_sub (id := "list.__getitem__") (owner := "list") (n := "__getitem__") (.inl (by decide +kernel)) (by decide +kernel) (by decide +kernel) entry_list_getitem (args_list_getitem _ _) (isList_acc hx X hl) ?_
  show wpAny _ _ (Builtin.List.listSubscript? (.int k u) >>= _) _ _ s
  refine wpAny_bind (wpAny_listSubscript_int (fitsIndex_of h0 hfit) ?_)
  clear hfit
  obtain ⟨k, rfl⟩ := Int.eq_ofNat_of_zero_le h0
  have hk : its[k]? = some y := hk
  show wpAny _ _ ((seqItemAt x k >>= fun r => pure (r.map (k, ·))) >>= _) _ _ s
  refine wpAny_bind (wpAny_bind (wpAny_seqItemAt hx rfl (wpAny_pure ?_)))
  rw [hk]
  first
    | exact wpAny_bind (wpAny_pure (wpAny_pure ⟨y, rfl, wpAny_pure h⟩))
    | exact wpAny_pure ⟨y, rfl, wpAny_pure h⟩
theorem store_acc {sl l : Addr} {vl : Value} {a : Nat} {new : Array Value} {Q : Unit → Shared → Prop} (X : K.In s.heap) (hx : s.heap.get? x = some (accObj d its n)) (hf : findIn K (.ref 195) "__setitem__" = some (some (.builtin "list.__setitem__"))) (hsd : subIn K (.ref 195) (.type "collections.deque") = some false) (hl : subIn K (.ref 195) (.type "list") = some true)
    (hs : s.heap.IsSliceOf sl vl .none .none) (pl : IsPart vl (some (a : Int)) ∨ (IsPart vl none ∧ a = 0)) (ha : a ≤ its.size) (hn : s.heap.IsList l new)
    (h : ∀ h', h' = s.heap.update x (Obj.mapSeq fun _ => its.extract 0 a ++ new) → Q () { s with heap := h' })
    (hsz : its.size ≤ 1000) (hsz2 : new.size ≤ 1) : wpAny (model prog w) A (setItem (.ref x) (.ref sl) (.ref l)) Q E s := by
  obtain ⟨os, hos, hcs, hds⟩ := id hs
  obtain ⟨ol, hol, hcl, nl, hdl⟩ := id hn
  have hTs : s.TypeIs (.ref sl) "slice" := ⟨os, hos, hcs⟩
  have hTl : s.TypeIs (.ref l) "list" := ⟨ol, hol, hcl⟩
  have hxl : x ≠ l := fun q => by rw [q, hol] at hx; cases hx; cases hcl
  have pl' : ∃ lo, IsPart vl lo ∧ (sliceBounds lo none none its.size) = ((a : Int), (its.size : Int), 1) := by
    rcases pl with pl | ⟨pl, rfl⟩
    · refine ⟨_, pl, ?_⟩
      simp only [sliceBounds, Option.getD_none]
      simp
      omega
    · refine ⟨_, pl, ?_⟩
      simp [sliceBounds]
  obtain ⟨lo, pl, hb⟩ := pl'
  unfold setItem
  refine wpAny_holding (wpAny_bind (key_acc X hx hsd ?_))
  refine wpAny_bind (special_acc X hx hf slot_list_setitem.bind ?_)
  refine call_sub (id := "list.__setitem__") (owner := "list") (n := "__setitem__") (.inr (by decide +kernel)) (by decide +kernel) (by decide +kernel) entry_list_setitem (args_list_setitem _ _ _) (isList_acc hx X hl) ?_
  show wpAny _ _ (Builtin.List.listSubscript? (.ref sl) >>= _) _ _ s
  refine wpAny_bind ?_
  unfold Builtin.List.listSubscript?
  refine wpAny_bind (wpAny_specialOf hTs slice_no_index ?_)
  simp only [Option.isNone_none, if_true]
  refine wpAny_pure ?_
  show wpAny _ _ (typeOf (.ref sl) >>= _) _ _ s
  refine wpAny_bind (wpAny_typeOf hTs ?_)
  rw [if_neg (by decide)]
  rw [listSliceParts_eq]
  refine wpAny_bind (wpAny_bind (wpAny_field hos hds (x := .none) rfl (wpAny_bind (wpAny_listPart .none ?_))))
  rw [if_neg (by exact Bool.false_ne_true)]
  refine wpAny_bind (wpAny_field hos hds (x := vl) rfl (wpAny_bind (wpAny_listPart pl ?_)))
  refine wpAny_bind (wpAny_field hos hds (x := .none) rfl (wpAny_bind (wpAny_listPart .none (wpAny_pure ?_))))
  dsimp only
  rw [if_neg (by simp [Builtin.List.listSameRef, hxl])]
  refine wpAny_bind (m := Builtin.List.listAllItems (.ref l) _) ?_
  unfold Builtin.List.listAllItems
  refine wpAny_bind (wpAny_typeOf hTl ?_)
  rw [if_pos (by decide)]
  unfold Builtin.List.listItems
  refine wpAny_bind (wpAny_seqItems hol hdl (wpAny_pure ?_))
  refine wpAny_bind (m := Builtin.List.listItems (.ref x)) ?_
  unfold Builtin.List.listItems
  refine wpAny_bind (wpAny_seqItems hx rfl (wpAny_pure ?_))
  refine wpAny_bind (wpAny_of_eq (sliceIndices_raw lo none none its.size (by simp)) ?_)
  rw [hb]
  dsimp only
  rw [if_pos (by decide)]
  refine wpAny_bind (wpAny_rule ?_)
  rw [if_neg (by unfold Builtin.List.listTooLong; rw [sizeLine_eq]; simp; omega)]
  have e1 : (max (a : Int) (its.size : Int)).toNat = its.size := by omega
  rw [e1]
  have e2 : its.extract its.size its.size = #[] := by simp
  show wpAny _ _ (updateSeq x _ >>= _) _ _ _
  refine wpAny_bind (wpAny_updateSeq hx rfl ?_ (hz := by rw [sizeLine_eq]; omega) (_hz' := by rw [sizeLine_eq]; simp; omega))
  refine wpAny_bind (wpAny_letGo (wpAny_pure ⟨_, rfl, wpAny_pure (h _ ?_)⟩))
  refine upd_congr hx ?_
  simp [Obj.mapSeq]
theorem sub_acc {value slice : Expr} {i : Value} {ops : List Value} {Q : Value → Shared → Prop} (X : K.In s.heap) (hx : s.heap.get? x = some (accObj d its n)) (hf : findIn K (.ref 195) "__getitem__" = some (some (.builtin "list.__getitem__")))
    (h : wpAny (model prog w) A (getItem (.ref x) i) Q E s) (hs : subscripted slice false (.ref x) i = operate ops (getItem (.ref x) i)) : wpAny (model prog w) A (subscriptTail value slice (.ref x) i) Q E s := by
  unfold subscriptTail getitemInPython specialOf
  refine wpAny_bind (wpAny_bind (wpAny_bind ((typeOf_acc hx).here ((looks_findIn X hf).here ?_))))
  dsimp only
  refine wpAny_pure ?_
  rw [hs]
  exact wpAny_bind (wpAny_operating (wpAny_mono h (fun r s₃ h₃ => wpAny_bind (wpAny_letTemporaryGo (wpAny_pure h₃))) fun _ _ x => x))
end
noncomputable def epoch (a b : Array Value) (n : Nat) : Nat := if b.size == a.size then n else n + 1
noncomputable abbrev sliceObj (a b : Value) : Obj := { cls := .type "slice", data := .fields #[a, b, .none] }
section
variable {w : World} {A : Around} {E : Value → Shared → Prop} {s : Shared} {x d L : Addr} {its : Array Value} {n : Nat} {h₀ : Heap} {m : Str → Option Value} {news news' : List (Addr × Obj)}
theorem slice_accF {vl vu : Value} {lo hi : Option Int} {value slice : Expr} {ops : List Value} {Q : Value → Shared → Prop} (F : Fr h₀ L s.heap m) (X₀ : (hd.heap_1 w.params).In h₀) (N : News h₀ L s.heap news) (hm : (x, accObj d its n) ∈ news) (pl : IsPart vl lo) (pu : IsPart vu hi)
    (h : ∀ l h', Fr h₀ L h' m → News h₀ L h' ((l, { cls := .type "list", data := .seq (slicePick its lo hi none) }) :: news) → (∀ p ∈ news, p.1 < l) → Q (.ref l) { s with heap := h' }) (hsz : its.size ≤ 1001)
    (hs : subscripted slice false (.ref x) (.ref s.heap.objs.size) = operate ops (getItem (.ref x) (.ref s.heap.objs.size))) :
    wpAny (model PR w) A (subscriptTail value slice (.ref x) (.ref s.heap.objs.size)) Q E { s with heap := s.heap.push (sliceObj vl vu) } := by
  have F1 := F.push (sliceObj vl vu)
  have N1 : News h₀ L (s.heap.push (sliceObj vl vu)) news := N.grown fun _ _ e => Heap.get?_push_of_some _ e
  have hx := (N1 _ hm).1
  refine sub_acc (X₀.keeps F1.keep) hx (by k_is) (slice_acc (X₀.keeps F1.keep) hx (by k_is) (by k_is) (by k_is) (Heap.IsSliceOf.new ..) pl pu (fun l h' hl he => ?_) hsz) hs
  subst hl he
  exact h _ _ (F1.push _) (News.push F1 N1 _) fun p hp => Heap.lt_size (N1 p hp).1
theorem store_accF {l : Addr} {vl : Value} {a nl : Nat} {new : Array Value} {Q : Unit → Shared → Prop} (F : Fr h₀ L s.heap m) (X₀ : (hd.heap_1 w.params).In h₀) (N : News h₀ L s.heap news)
    (pl : IsPart vl (some (a : Int)) ∨ (IsPart vl none ∧ a = 0)) (ha : a ≤ its.size) (hn : (l, (⟨.type "list", none, .seq new nl, #[]⟩ : Obj)) ∈ news) (U : Upd x (accObj d its n) (accObj d (its.extract 0 a ++ new) (epoch its (its.extract 0 a ++ new) n)) news news')
    (h : ∀ h', Fr h₀ L h' m → News h₀ L h' news' → Q () { s with heap := h' })
    (hsz : its.size ≤ 1000) (hsz2 : new.size ≤ 1) : wpAny (model PR w) A (setItem (.ref x) (.ref s.heap.objs.size) (.ref l)) Q E { s with heap := s.heap.push (sliceObj vl .none) } := by
  have F1 := F.push (sliceObj vl .none)
  have N1 : News h₀ L (s.heap.push (sliceObj vl .none)) news := N.grown fun _ _ e => Heap.get?_push_of_some _ e
  have hl := (N1 _ hn).1
  obtain ⟨pre, post, rfl, rfl, p, q⟩ := U.split
  have hx := (N1 (x, accObj d its n) (List.mem_append.mpr (.inr (.head _)))).1
  refine store_acc (X₀.keeps F1.keep) hx (by k_is) (by k_is) (by k_is) (Heap.IsSliceOf.new ..) pl ha ⟨_, hl, rfl, _, rfl⟩ (fun h' he => ?_) hsz hsz2
  subst he
  obtain ⟨F', N'⟩ := news_upd F1 N1 p q (f := Obj.mapSeq fun _ => its.extract 0 a ++ new) rfl rfl
  exact h _ F' N'
end
theorem refuse_list (self : Value) : refuseLoop self "__setattr__" [.type "list", .type "object"] = pure () := by kernel_rfl
section
variable {prog : Program} {w : World} {A : Around} {E : Value → Shared → Prop} {s : Shared} {K : Frag} {x C L : Addr} {h₀ : Heap} {m : Str → Option Value} {R : Result → Shared → Prop} {cd : ClassData} {name : Str} {v : Value}
theorem osa_openL {ox : Obj} {od : Option Obj} {tk : Tok} {r : Option Value} (X : K.In s.heap) (I : InstAt s.heap x ox C od) (hc : clsIn K C = some cd) (ho : cd.mro = [.ref C, .type "list", .type "object"]) (ht : takerIn K C name = some r)
    (h : ∀ b, wpAny (model prog w) A.in1 (match r with | some a => Builtin.ObjectAttr.setByDescriptor a (.ref x) v | none => Builtin.ObjectAttr.storeInOwnDict (.ref x) (.ref C) (.str name tk) name v b)
      (fun fin s' => match fin with | .done f => R (.ok f) s' | .again c' => c'.quiet = true ∧ codeAny (model prog w) A c' R s') (fun e s' => R (.error e) s') s) :
    codeAny (model prog w) A (.call (.builtin "object.__setattr__") ⟨[.ref x, .str name tk, v], []⟩) R s := by
  have SF := PySem.F.store_object
  have sub : Looks (model prog w) s.heap (isInstance (.ref x) (.type "object")) true := I.type.andThen (looks_mroIn X (by unfold mroIn; rw [hc, Option.bind_some, ho]; simp))
  refine codeAny_call_builtin SF.slot.plain SF.entry (@check_slot (model prog w) _ _ s "object.__setattr__" "object" "__setattr__" (.ref x) [.str name tk, v] [] _ SF.kind SF.split sub (SF.args (.ref x) (.str name tk) v) ?_)
  obtain ⟨attr, ha, hr⟩ := Option.bind_eq_some_iff.mp ht
  have hm : Looks (model prog w) s.heap (mroOf (.ref C)) cd.mro := (looks_clsIn X hc).andThen .now
  have L3 : Looks (model prog w) s.heap (Builtin.ObjectAttr.storeTaker? attr) r := by
    cases attr with
    | none => cases hr; exact .now
    | some a =>
      obtain ⟨b, hb, rfl⟩ := Option.map_eq_some_iff.mp hr
      refine (looks_takesIn X hb).andThen ?_
      cases b <;> exact .now
  rw [osa_eq, refuse_eq]
  refine wpAny_bind (wpAny_bind (I.type.here (wpAny_bind (hm.here ?_))))
  rw [ho, refuseLoop_ref, refuse_list]
  refine wpAny_pure (wpAny_bind (I.type.here (wpAny_bind ((looks_findIn X ha).here (wpAny_bind (L3.here ?_))))))
  exact h _
theorem osa_dictL {ox od od' : Obj} {dx : Addr} {tk : Tok} {pre post : List (Addr × Obj)} {es : List DictEntry} {n : Nat} (F : Fr h₀ L s.heap m) (N : News h₀ L s.heap (pre ++ (dx, od) :: post)) (X : K.In s.heap)
    (I : InstAt s.heap x ox C (some od)) (hd : ox.dict = some dx) (hc : clsIn K C = some cd) (ho : cd.mro = [.ref C, .type "list", .type "object"]) (ht : takerIn K C name = some none) (hd' : cd.hasDict = true)
    (hl : (lookIn name od).isSome = true) (h1 : ∀ p ∈ pre, p.1 ≠ dx) (h2 : ∀ p ∈ post, p.1 ≠ dx)
    (e : Obj.putName name (PyData.keyHash w.params name) (.str name s.toks) v od = od') (e' : od'.data = .dict es.toArray n) (hz : es.length ≤ 1000)
    (h : ∀ h', Fr h₀ L h' m → News h₀ L h' (pre ++ (dx, od') :: post) → R (.ok (.ret .none)) { s with heap := h', toks := s.toks + 1 }) :
    codeAny (model prog w) A (.call (.builtin "object.__setattr__") ⟨[.ref x, .str name tk, v], []⟩) R s := by
  refine osa_openL X I hc ho ht fun b => ?_
  obtain ⟨U1, U2⟩ := news_upd (f := Obj.putName name (PyData.keyHash w.params name) (.str name s.toks) v) F N h1 h2 e (by obtain ⟨_, _, dd, _⟩ := od'; cases e'; rfl)
  have D := (N (dx, od) (by simp)).1
  have D' := (U2 (dx, od') (by simp)).1
  obtain ⟨hx, hcl, hn, -⟩ := I
  obtain ⟨oc, odi, oda, osl⟩ := ox
  dsimp only at hcl hd
  subst hcl hd
  refine wpAny_bind (wpAny_pure (wpAny_bind (wpAny_bind (wpAny_loadPart hx (wpAny_bind ((looks_clsIn X hc).here ?_))))))
  rw [hd']
  refine wpAny_pure (a := some dx) (wpAny_bind (wpAny_pure (wpAny_bind ?_)))
  unfold nsSet
  refine wpAny_bind (wpAny_bind (wpAny_askSetting (wpAny_pure (wpAny_bind (wpAny_mkText (wpAny_bind (wpAny_loadPart D ?_)))))))
  unfold lookIn at hl
  split at hl
  · rename_i es₀ n₀ q
    rw [q]
    dsimp only
    have c : (!es₀.any (·.key.isStr name) && es₀.any (·.refKey)) = false := by
      rw [← Array.any_toList, ← Array.any_toList]
      split at hl
      · rename_i en he
        rw [List.any_eq_true.mpr ⟨en, List.mem_of_find?_eq_some he, List.find?_some he⟩]; rfl
      · split at hl
        · cases hl
        · rename_i z; rw [Bool.not_eq_true] at z; rw [z, Bool.and_false]
    rw [aRefKeyMayBeTheName_at, c]
    refine wpAny_updatePart D ?_
    refine wpAny_bind (wpAny_lookBehind D' (by rw [e']; exact pastItsLine_dict (by rw [List.size_toArray, sizeLine_eq]; omega)) ?_)
    exact wpAny_pure (h _ U1 U2)
  · cases hl
theorem set_sub {Q : Unit → Shared → Prop} {ox : Obj} {dx : Addr} {es es' : List DictEntry} {n n' : Nat} {news news' : List (Addr × Obj)} (F : Fr h₀ L s.heap m) (X₀ : K.In h₀) (N : News h₀ L s.heap news) (I : InstAt s.heap x ox C (some (dictOf es n))) (hd : ox.dict = some dx)
    (hs : findIn K (.ref C) "__setattr__" = some (some (.builtin "object.__setattr__"))) (hc : clsIn K C = some cd) (ho : cd.mro = [.ref C, .type "list", .type "object"]) (ht : takerIn K C name = some none) (hh : cd.hasDict = true) (hl : (getL name es).isSome = true)
    (e : (putL name (PyData.keyHash w.params name) (.str name (s.toks + 1)) v es, putN name es n) = (es', n')) (U : Upd dx (dictOf es n) (dictOf es' n') news news') (hz : es'.length ≤ 1000)
    (h : ∀ h', Fr h₀ L h' m → News h₀ L h' news' → Q () { s with heap := h', toks := s.toks + 2 }) :
    wpAny (model prog w) A (setAttr (.ref x) name v) Q E s := by
  obtain ⟨pre, post, rfl, rfl, a, b⟩ := U.split
  obtain ⟨e1, e2⟩ := Prod.mk.inj e
  exact set_plain (X₀.keeps F.keep) I hs (osa_dictL (s := { s with toks := s.toks + 1 }) F N (X₀.keeps F.keep) I hd hc ho ht hh hl a b (by rw [putName_dict, e1, e2]) rfl hz fun h' F' N' => h h' F' N')
end
example : True := by
  k_with_none
  trivial
example : True := by
  k_with "go" =>
    repeat' (first | (k_unfold; (try dsimp only)) | walk1 | (dsimp only; walk1) | fail "no step")
  trivial

example : True := by
  k_with "getMethod ref" =>
    (k_here; k_dflt (refine' method_sub ?qk1z ?qk2z ?qk3z ?qk4z ?qk5z ?qk6z ?qk7z ?qk8z ?_; (case qk1z => k_asm); (case qk2z => k_asm); (case qk3z => k_inst); (case qk4z => k_is); (case qk5z => k_is); (case qk6z => k_is); (case qk7z => kernel_rfl); (case qk8z => k_get); k_whole))
  k_with "subscriptTail Name Slice ref ref" =>
    (k_here; (with_reducible show wpAny _ _ (subscriptTail _ (PySem.Expr.Slice _ _ none _) (Value.ref _) (Value.ref _)) _ _ _); k_dflt
      (refine' slice_accF ?qFz ?qXz ?qNz ?qmz ?qp1z ?qp2z ?_ ?qzz ?qsz; (case qFz => k_asm); (case qXz => k_asm); (case qNz => k_asm); (case qmz => k_mem); (case qp1z => first | exact .int _ _ | exact .none); (case qp2z => first | exact .int _ _ | exact .none); (case qzz => omega); (case qsz => exact rfl); k_whole); intro _ _ _ _ zlt; k_lt zlt; (try (revert zlt; intro _)); (try k_sweep))
  k_with "setItem ref ref" =>
    (k_here; k_dflt
      (refine' store_accF ?qFz ?qXz ?qNz ?qp1z ?qaz ?qmz ?qUz ?_ ?qzz ?qsz; (case qFz => k_asm); (case qXz => k_asm); (case qNz => k_asm); (case qp1z => first | exact .inl (.int _ _) | exact .inr ⟨.none, rfl⟩); (case qmz => k_mem); (case qUz => k_upd); (case qaz => omega); (case qzz => omega); (case qsz => first | omega | (simp; omega) | simp); k_whole); intro _ _ _; (try k_sweep))
  trivial


theorem put_acc {hsh hs : Int} {key u v : Value} {tn : Tok} {n : Nat} : (putL "_initial_size" hsh key v [⟨hs, .str "_initial_size" tn, u⟩], putN "_initial_size" [⟨hs, .str "_initial_size" tn, u⟩] n) = ([⟨hs, .str "_initial_size" tn, v⟩], n) := by
  have : (Value.str "_initial_size" tn).isStr "_initial_size" = true := by simp [Value.isStr]
  simp [putL, putN, this]
example : True := by
  k_with "setAttr ref" =>
    (k_here; k_dflt
      (refine' set_sub ?qk1z ?qk2z ?qk3z ?qk4z ?qk5z ?qk6z ?qk7z ?qkoz ?qk8z ?qk9z ?qk10z ?qk11z ?qk12z ?qk13z ?_; (case qk1z => k_asm); (case qk2z => k_asm); (case qk3z => k_asm); (case qk4z => k_inst); (case qk5z => exact rfl); (case qk6z => k_is); (case qk7z => k_is); (case qkoz => exact rfl); (case qk8z => k_is); (case qk9z => exact rfl); (case qk10z => k_get); (case qk11z => exact put_acc); (case qk12z => k_upd); (case qk13z => exact Nat.le_of_ble_eq_true rfl); k_whole; intro _ _ _; (try k_sweep)))
  trivial

theorem ne_of_obj {h : Heap} {a b : Addr} {o o' : Obj} (h1 : h.get? a = some o) (h2 : h.get? b = some o') (e : o.cls ≠ o'.cls) : @Ne Nat a b := fun q => by
  subst q; rw [h1] at h2; cases h2; exact e rfl
set_option pp.maxSteps 2000 in
theorem pop_from_spec {w : World} {A : Around} {s : Shared} {g : Heap} {p : Program} {loose : List Str} {mg mb : Str → Option Value} {acc d : Addr} {its : Array Value} {n : Nat} {Q E : Value → Shared → Prop} {hs : Int} {tn ti : Tok} {ne : Nat} {i : Nat} {u : Tok}
    (X : (hd.heap_1 w.params).In g) (T : TopRead p loose mg mb g) (st : g.StaysIn s.heap) (ha : s.heap.get? acc = some (accObj d its n)) (hga : g.get? acc = none) (hdd : s.heap.get? d = some (accDict hs tn ti ne)) (hgd : g.get? d = none)
    (hr : A.depth + 1 < recursionLimit) (hz : its.size ≤ 1000) (hi : i + 1 = its.size)
    (h : ∀ l h' n' tk, s.heap.get? l = none → h'.get? l = some { cls := .type "list", data := .seq (its.toList.drop i).toArray } → h'.get? acc = some (accObj d (its.extract 0 i) n') → (∀ b o, b ≠ acc → s.heap.get? b = some o → h'.get? b = some o) → Q (.ref l) { s with heap := h', toks := tk }) :
    wpAny (model PR w) A (call (.ref 147) [.ref acc, .int i u]) Q E s := by
  have hne : @Ne Nat acc d := fun q => by rw [q, hdd] at ha; cases ha
  refine wpAny_call ?_
  refine' enter (binds := [("self", .ref acc), ("i", .int i u)]) (led := [(acc, accObj d its n), (d, accDict hs tn ti ne)]) X T st ?hl ?ho ?hcd (by omega) ?hb ?hloc ?_ ?hcell ?hco ?hgen ?hk
  case hl => simp only [List.forall_mem_cons, ha, hga, hdd, hgd, and_self, List.not_mem_nil, false_imp_iff, implies_true]
  case ho => k_is
  case hcd => k_is
  case hb => exact binds_K (X.keeps st) rfl (by k_is) rfl rfl rfl
  case hloc => rfl
  case hcell => decide
  case hco => rfl
  case hgen => rfl
  case hk => rfl
  intro g' h₁ kp st' kp₁ F' N' X' T'
  k_extra "go"
  rename Fr _ _ _ _ => F
  rename News _ _ _ _ => N
  rename_i l _ _ _ _ _ _ _
  have hl := N (l, _) (List.Mem.tail _ (List.Mem.head _))
  have hA := N (acc, _) (List.Mem.tail _ (List.Mem.tail _ (List.Mem.head _)))
  have hD := N (d, _) (List.Mem.tail _ (List.Mem.tail _ (List.Mem.tail _ (List.Mem.head _))))
  have n1 : @Ne Nat l acc := ne_of_obj hl.1 hA.1 (fun e => nomatch e)
  have n2 : @Ne Nat l d := ne_of_obj hl.1 hD.1 (by simp)
  rw [slicePick_from' its i] at hl
  rw [Array.append_empty] at hA
  refine h l _ _ _ (fresh_of kp hl.2.2 (by simp [n1, n2])) hl.1 hA.1 fun b o hb hbo => ?_
  by_cases q : b = d
  · subst q; rw [hdd] at hbo; cases hbo; exact hD.1
  · exact F.keep _ _ (kp _ _ hbo (by simp [hb, q]))

theorem reset_spec {w : World} {A : Around} {s : Shared} {g : Heap} {p : Program} {loose : List Str} {mg mb : Str → Option Value} {acc d : Addr} {its : Array Value} {n : Nat} {Q E : Value → Shared → Prop} {hs : Int} {tn ti : Tok} {ne : Nat} {l : Addr} {new : Array Value} {nl : Nat}
    (X : (hd.heap_1 w.params).In g) (T : TopRead p loose mg mb g) (st : g.StaysIn s.heap) (ha : s.heap.get? acc = some (accObj d its n)) (hga : g.get? acc = none) (hdd : s.heap.get? d = some (accDict hs tn ti ne)) (hgd : g.get? d = none) (hll : s.heap.get? l = some ⟨.type "list", none, .seq new nl, #[]⟩) (hgl : g.get? l = none)
    (hr : A.depth + 1 < recursionLimit) (hz : its.size ≤ 1000) (hn : new.size ≤ 1)
    (h : ∀ h' n' hs' tn' ti' ne' tk, h'.get? acc = some (accObj d new n') → h'.get? d = some (accDict hs' tn' ti' ne') → (∀ b o, b ≠ acc → b ≠ d → s.heap.get? b = some o → h'.get? b = some o) → Q .none { s with heap := h', toks := tk }) :
    wpAny (model PR w) A (call (.ref 177) [.ref acc, .ref l]) Q E s := by
  have hne : @Ne Nat acc d := fun q => by rw [q, hdd] at ha; cases ha
  have hne1 : @Ne Nat acc l := fun q => by rw [q, hll] at ha; cases ha
  have hne2 : @Ne Nat d l := ne_of_obj hdd hll (by simp)
  refine wpAny_call ?_
  refine' enter (binds := [("self", .ref acc), ("startval", .ref l)]) (led := [(acc, accObj d its n), (d, accDict hs tn ti ne), (l, ⟨.type "list", none, .seq new nl, #[]⟩)]) X T st ?hl ?ho ?hcd (by omega) ?hb ?hloc ?_ ?hcell ?hco ?hgen ?hk
  case hl => simp only [List.forall_mem_cons, ha, hga, hdd, hgd, hll, hgl, and_self, List.not_mem_nil, false_imp_iff, implies_true]
  case ho => k_is
  case hcd => k_is
  case hb => exact binds_K (X.keeps st) rfl (by k_is) rfl rfl rfl
  case hloc => rfl
  case hcell => decide
  case hco => rfl
  case hgen => rfl
  case hk => rfl
  intro g' h₁ kp st' kp₁ F' N' X' T'
  k_extra "go"
  rename Fr _ _ _ _ => F
  rename News _ _ _ _ => N
  have hA := N (acc, _) (List.Mem.head _)
  have hD := N (d, _) (List.Mem.tail _ (List.Mem.head _))
  have hL := N (l, _) (List.Mem.tail _ (List.Mem.tail _ (List.Mem.head _)))
  rw [show its.extract 0 0 ++ new = new from by simp] at hA
  refine h _ _ _ _ _ _ _ hA.1 hD.1 fun b o hb hb2 hbo => ?_
  by_cases q : b = l
  · subst q; rw [hll] at hbo; cases hbo; exact hL.1
  · exact F.keep _ _ (kp _ _ hbo (by simp [hb, hb2, q]))

theorem reset0_spec {w : World} {A : Around} {s : Shared} {g : Heap} {p : Program} {loose : List Str} {mg mb : Str → Option Value} {acc d : Addr} {its : Array Value} {n : Nat} {Q E : Value → Shared → Prop} {hs : Int} {tn ti : Tok} {ne : Nat}
    (X : (hd.heap_1 w.params).In g) (T : TopRead p loose mg mb g) (st : g.StaysIn s.heap) (ha : s.heap.get? acc = some (accObj d its n)) (hga : g.get? acc = none) (hdd : s.heap.get? d = some (accDict hs tn ti ne)) (hgd : g.get? d = none)
    (hr : A.depth + 1 < recursionLimit) (hz : its.size ≤ 1000)
    (h : ∀ h' n' hs' tn' ti' ne' tk, h'.get? acc = some (accObj d #[] n') → h'.get? d = some (accDict hs' tn' ti' ne') → (∀ b o, b ≠ acc → b ≠ d → s.heap.get? b = some o → h'.get? b = some o) → Q .none { s with heap := h', toks := tk }) :
    wpAny (model PR w) A (call (.ref 177) [.ref acc]) Q E s := by
  have hne : @Ne Nat acc d := fun q => by rw [q, hdd] at ha; cases ha
  refine wpAny_call ?_
  refine' enter (binds := [("self", .ref acc), ("startval", .none)]) (led := [(acc, accObj d its n), (d, accDict hs tn ti ne)]) X T st ?hl ?ho ?hcd (by omega) ?hb ?hloc ?_ ?hcell ?hco ?hgen ?hk
  case hl => simp only [List.forall_mem_cons, ha, hga, hdd, hgd, and_self, List.not_mem_nil, false_imp_iff, implies_true]
  case ho => k_is
  case hcd => k_is
  case hb => exact binds_K (X.keeps st) rfl (by k_is) rfl rfl rfl
  case hloc => rfl
  case hcell => decide
  case hco => rfl
  case hgen => rfl
  case hk => rfl
  intro g' h₁ kp st' kp₁ F' N' X' T'
  k_extra "go"
  rename Fr _ _ _ _ => F
  rename News _ _ _ _ => N
  have hA := N (acc, _) (List.Mem.tail _ (List.Mem.head _))
  have hD := N (d, _) (List.Mem.tail _ (List.Mem.tail _ (List.Mem.head _)))
  rw [show its.extract 0 0 ++ #[] = #[] from by simp] at hA
  refine h _ _ _ _ _ _ _ hA.1 hD.1 fun b o hb hb2 hbo => ?_
  exact F.keep _ _ (kp _ _ hbo (by simp [hb, hb2]))
theorem hide_Q {α : Type} {M : Model} {A : Around} {T : Sem α} {Q : α → Shared → Prop} {E : Value → Shared → Prop} {s : Shared} (h : ∀ (Q' : α → Shared → Prop) (E' : Value → Shared → Prop), (∀ a s', Q a s' → Q' a s') → wpAny M A T Q' E' s) : wpAny M A T Q E s := h Q E fun _ _ k => k
theorem hide_Q2 {α β : Type} {M : Model} {A : Around} {T : Sem α} {T2 : Sem β} {Q : β → Shared → Prop} {E : Value → Shared → Prop} {s : Shared} (h : ∀ (Q' : β → Shared → Prop) (E' : Value → Shared → Prop), (∀ a s', Q a s' → Q' a s') → wpAny M A T (fun _ s₂ => wpAny M A T2 Q' E' s₂) E' s) : wpAny M A T (fun _ s₂ => wpAny M A T2 Q E s₂) E s := h Q E fun _ _ k => k
structure Nx (Q' : Flow → Shared → Prop) (P : Shared → Prop) (Q : Flow → Shared → Prop) : Prop where
  next : ∀ s', P s' → Q' .next s'
  brk : ∀ s', Q .brk s' → Q' .brk s'
  cont : ∀ s', Q .cont s' → Q' .cont s'
  ret : ∀ v s', Q (.ret v) s' → Q' (.ret v) s'
theorem hide_cons {M : Model} {A : Around} {E : Value → Shared → Prop} {s : Shared} {env : Env} {st : Stmt} {rest : List Stmt} {Q : Flow → Shared → Prop}
    (h : ∀ Q', Nx Q' (fun s' => wpAny M A (execs rest env) Q E s') Q → wpAny M A (exec st env) Q' E s) : wpAny M A (execs (st :: rest) env) Q E s :=
  wpAny_execs_cons (h _ ⟨fun _ k => k, fun _ k => k, fun _ k => k, fun _ _ k => k⟩)
example : True := by
  k_with_none
  trivial
example : True := by
  k_with "go" =>
    repeat' (first | (k_unfold; (try dsimp only)) | walk1 | (dsimp only; walk1) | fail "no step")
  trivial

example : True := by
  k_with "getMethod ref" =>
    (k_here; k_dflt (refine' method_sub ?qk1z ?qk2z ?qk3z ?qk4z ?qk5z ?qk6z ?qk7z ?qk8z ?_; (case qk1z => k_asm); (case qk2z => k_asm); (case qk3z => k_inst); (case qk4z => k_is); (case qk5z => k_is); (case qk6z => k_is); (case qk7z => kernel_rfl); (case qk8z => k_get); k_whole))
  k_with "getAttr ref" =>
    (k_here; k_dflt (refine' get_sub ?qk1z ?qk2z ?qk3z ?qk4z ?qk5z ?qk6z ?qk7z ?qk8z ?qk9z ?qk10z ?qk11z ?_; (case qk1z => k_asm); (case qk2z => k_asm); (case qk3z => k_inst); (case qk4z => k_is); (case qk5z => k_is); (case qk6z => k_is); (case qk7z => k_is); (case qk8z => k_is); (case qk9z => k_is); (case qk10z => k_get); (case qk11z => k_handed); k_whole))
  k_with "subscriptTail Name Slice ref ref" =>
    (k_here; (with_reducible show wpAny _ _ (subscriptTail _ (PySem.Expr.Slice _ _ none _) (Value.ref _) (Value.ref _)) _ _ _); k_dflt
      (refine' slice_accF ?qFz ?qXz ?qNz ?qmz ?qp1z ?qp2z ?_ ?qzz ?qsz; (case qFz => k_asm); (case qXz => k_asm); (case qNz => k_asm); (case qmz => k_mem); (case qp1z => first | exact .int _ _ | exact .none); (case qp2z => first | exact .int _ _ | exact .none); (case qzz => first | exact Nat.le_trans (by assumption) (by decide) | omega); (case qsz => exact rfl); k_whole); intro _ _ _ _ zlt; k_lt zlt; (try (revert zlt; intro _)); (try k_sweep))
  k_with "setItem ref ref" =>
    (k_here; k_dflt
      (refine' store_accF ?qFz ?qXz ?qNz ?qp1z ?qaz ?qmz ?qUz ?_ ?qzz ?qsz; (case qFz => k_asm); (case qXz => k_asm); (case qNz => k_asm); (case qp1z => first | exact .inl (.int _ _) | exact .inr ⟨.none, rfl⟩); (case qmz => k_mem); (case qUz => k_upd); (case qaz => omega); (case qzz => first | exact Nat.le_trans (by assumption) (by decide) | omega); (case qsz => first | omega | (simp; omega) | simp); k_whole); intro _ _ _; (try k_sweep))
  k_with "setAttr ref" =>
    (k_here; k_dflt
      (refine' set_sub ?qk1z ?qk2z ?qk3z ?qk4z ?qk5z ?qk6z ?qk7z ?qkoz ?qk8z ?qk9z ?qk10z ?qk11z ?qk12z ?qk13z ?_; (case qk1z => k_asm); (case qk2z => k_asm); (case qk3z => k_asm); (case qk4z => k_inst); (case qk5z => exact rfl); (case qk6z => k_is); (case qk7z => k_is); (case qkoz => exact rfl); (case qk8z => k_is); (case qk9z => exact rfl); (case qk10z => k_get); (case qk11z => exact put_acc); (case qk12z => k_upd); (case qk13z => exact Nat.le_of_ble_eq_true rfl); k_whole; intro _ _ _; (try k_sweep)))
  trivial
section
section
variable {prog : Program} {w : World} {A : Around} {s : Shared} {env : Env}
theorem for_step {R : Result → Shared → Prop} {target : Expr} {it : Value} {body orelse : List Stmt}
    (h : wpAny (model prog w) A (pyNext it) (fun r s₁ => match r with
      | none => wpAny (model prog w) A (execs orelse env) (fun f s₃ => R (.ok f) s₃) (notedBy (model prog w) A env fun e s' => R (.error e) s') s₁
      | some v => wpAny (model prog w) A (letOwnedTupleGo target it v) (fun _ s₁' =>
          wpAny (model prog w) A (assign target env v) (fun _ s₂ => wpAny (model prog w) A (execs body env) (fun f s₃ => match f with
            | .next | .cont => codeAny (model prog w) A (.forLoop target it body orelse env) R s₃
            | .brk => R (.ok .next) s₃
            | .ret v => R (.ok (.ret v)) s₃) (notedBy (model prog w) A env fun e s' => R (.error e) s') s₂) (notedBy (model prog w) A env fun e s' => R (.error e) s') s₁') (notedBy (model prog w) A env fun e s' => R (.error e) s') s₁) (notedBy (model prog w) A env fun e s' => R (.error e) s') s) :
    codeAny (model prog w) A (.forLoop target it body orelse env) R s := by
  refine codeAny_loop' rfl (fun _ s' => s' = s) (fun n s' hI => ?_) 0 rfl
  subst hI
  show wpAny _ A ((forTurn target it body orelse env).onRaise (fun x => do noteFrame x env; theTreesLotGoes x)) _ _ s'
  refine wpAny_noted ?_
  simp only [forTurn]
  refine wpAny_bind (wpAny_standAt (wpAny_bind (wpAny_onRaise (wpAny_mono h (fun r s₁ h₁ => ?_) fun _ _ h' => wpAny_standAt h'))))
  cases r with
  | none => exact wpAny_pure (.inr ⟨rfl, codeAny_block h₁⟩)
  | some v =>
    refine wpAny_bind (wpAny_mono h₁ (fun _ s₁' h₁' => ?_) fun _ _ h' => h')
    refine wpAny_bind (wpAny_mono h₁' (fun _ s₂ h₂ => wpAny_bind (wpAny_mono h₂ (fun f s₃ h₃ => ?_) fun _ _ h' => h')) fun _ _ h' => h')
    cases f with
    | next => exact wpAny_pure (.inr ⟨rfl, h₃⟩)
    | cont => exact wpAny_pure (.inr ⟨rfl, h₃⟩)
    | brk => exact wpAny_pure h₃
    | ret v => exact wpAny_pure h₃
end

structure FD where
  h1 : Int
  h2 : Int
  h3 : Int
  h4 : Int
  h5 : Int
  h6 : Int
  t1 : Tok
  t2 : Tok
  t3 : Tok
  t4 : Tok
  t5 : Tok
  t6 : Tok
  u1 : Tok
  u2 : Tok
  u3 : Tok
  u4 : Tok
  cl : Int
noncomputable abbrev fmtObj (df : Addr) : Obj := ⟨.ref 111, some df, .plain, #[]⟩
noncomputable abbrev fmtDict (f : FD) (width : Int) (cws sp : Str) (ls acc : Addr) (n : Nat) : Obj := dictOf [⟨f.h1, .str "_maxlen" f.t1, .int width f.u1⟩, ⟨f.h2, .str "_continuation_ws" f.t2, .str cws f.u2⟩, ⟨f.h3, .str "_continuation_ws_len" f.t3, .int f.cl f.u3⟩,
  ⟨f.h4, .str "_splitchars" f.t4, .str sp f.u4⟩, ⟨f.h5, .str "_lines" f.t5, .ref ls⟩, ⟨f.h6, .str "_current_line" f.t6, .ref acc⟩] n
noncomputable abbrev lstObj (its : Array Value) (n : Nat) : Obj := ⟨.type "list", none, .seq its n, #[]⟩

structure Fmt (h : Heap) (fm df ls acc d : Addr) (width : Int) (cws sp : Str) (lines : List Str) (ps : List (Str × Str)) : Prop where
  ne : @Ne Nat d df
  ofm : h.get? fm = some (fmtObj df)
  odf : ∃ f n, h.get? df = some (fmtDict f width cws sp ls acc n)
  ols : ∃ vs n, h.get? ls = some (lstObj vs n) ∧ StrsAre vs.toList lines
  oacc : ∃ its n, h.get? acc = some (accObj d its n) ∧ Parts h its.toList ps
  od : ∃ hs tn ti ne, h.get? d = some (accDict hs tn ti ne)

section
variable {w : World} {A : Around} {E : Value → Shared → Prop} {s : Shared} {g h h' : Heap} {L acc d : Addr} {m : Str → Option Value} {news news' : List (Addr × Obj)} {its : Array Value} {n : Nat} {hs : Int} {tn ti : Tok} {ne : Nat}
  {p : Program} {loose : List Str} {mg mb : Str → Option Value}
theorem step1 {a : Addr} {o o' : Obj} (F : Fr g L h m) (N : News g L h news) (U : Upd a o o' news news') (ha : h'.get? a = some o') (k : ∀ b x, b ≠ a → h.get? b = some x → h'.get? b = some x) : Fr g L h' m ∧ News g L h' news' := by
  obtain ⟨pre, post, rfl, rfl, p1, p2⟩ := U.split
  have D := N (a, o) (List.mem_append.mpr (.inr (.head _)))
  refine ⟨fr_after (l := [a]) F (fun b x hb e => k b x (fun q => hb (q ▸ List.Mem.head _)) e) (fun b hb => by cases List.mem_singleton.mp hb; exact ⟨D.2.2, D.2.1⟩), fun q hq => ?_⟩
  rcases List.mem_append.mp hq with hq | hq
  · have := N q (List.mem_append_left _ hq)
    exact ⟨k _ _ (p1 q hq) this.1, this.2⟩
  · rcases List.mem_cons.mp hq with rfl | hq
    · exact ⟨ha, D.2⟩
    · have := N q (List.mem_append_right _ (List.mem_cons_of_mem _ hq))
      exact ⟨k _ _ (p2 q hq) this.1, this.2⟩
theorem cons1 {a : Addr} {o : Obj} (F : Fr g L h m) (N : News g L h news) (hn : h.get? a = none) (F' : Fr g L h' m) (N' : News g L h' news') (ha : h'.get? a = some o) : News g L h' ((a, o) :: news') := by
  intro q hq
  rcases List.mem_cons.mp hq with rfl | hq
  · refine ⟨ha, fun q => ?_, ?_⟩
    · obtain ⟨o, es, ep, e, _⟩ := F.ns
      have q' : a = L := q
      rw [q', e] at hn; cases hn
    · cases q : g.get? a with
      | none => rfl
      | some x => rw [F.keep _ _ q] at hn; cases hn
  · exact N' q hq
theorem apart (N : News g L h news) {t : Addr} (hn : h.get? t = none) : ∀ p ∈ news, @Ne Nat p.1 t := fun p hp q => by rw [← q, (N p hp).1] at hn; cases hn
noncomputable def Apart (a b : Nat) : Prop := a ≠ b
theorem Apart.neq {a b : Nat} (h : Apart a b) : a ≠ b := h
theorem apart_of_obj {h : Heap} {a b : Addr} {o o' : Obj} (h1 : h.get? a = some o) (h2 : h.get? b = some o') (e : o.cls ≠ o'.cls) : Apart a b := ne_of_obj h1 h2 e
noncomputable def AllNe (d : Nat) : List (Addr × Obj) → Prop
  | [] => True
  | p :: r => Apart p.1 d ∧ AllNe d r
theorem allNe_of {d : Addr} : ∀ {l : List (Addr × Obj)}, (∀ p ∈ l, @Ne Nat p.1 d) → AllNe d l
  | [], _ => trivial
  | p :: r, h => ⟨h p (.head _), allNe_of fun q hq => h q (.tail _ hq)⟩
theorem push_F {a b : Value} {newsF : Addr → List (Addr × Obj)} {Q : Value → Shared → Prop} (F : Fr g L s.heap m) (X : (hd.heap_1 w.params).In g) (T : TopRead p loose mg mb g) (N : News g L s.heap news) (hD : (d, accDict hs tn ti ne) ∈ news)
    (U : ∀ t, Upd acc (accObj d its n) (accObj d (its.push (.ref t)) (n + 1)) news (newsF t)) (hr : A.depth < recursionLimit) (hz : its.size ≤ 1000)
    (h : ∀ t h' tk, Fr g L h' m → News g L h' ((t, tupObj [a, b]) :: newsF t) → (∀ p ∈ news, @Ne Nat p.1 t) → Q .none { s with heap := h', toks := tk }) :
    wpAny (model PR w) A (call (.ref 139) [.ref acc, a, b]) Q E s := by
  have hA : (acc, accObj d its n) ∈ news := by
    obtain ⟨pre, post, e, _⟩ := (U 0).split
    rw [e]; exact List.mem_append.mpr (.inr (.head _))
  refine push_spec X T F.keep (N _ hA).1 (N _ hA).2.2 (N _ hD).1 (N _ hD).2.2 hr hz fun t h' tk ht htup hacc k => ?_
  obtain ⟨F', N'⟩ := step1 F N (U t) hacc k
  exact h t h' tk F' (cons1 F N ht F' N' htup) (apart N ht)
theorem pcount_F {Q : Value → Shared → Prop} (F : Fr g L s.heap m) (X : (hd.heap_1 w.params).In g) (T : TopRead p loose mg mb g) (N : News g L s.heap news) (hA : (acc, accObj d its n) ∈ news) (hr : A.depth < recursionLimit)
    (h : ∀ h' tk tk', Fr g L h' m → News g L h' news → Q (.int its.size tk') { s with heap := h', toks := tk }) :
    wpAny (model PR w) A (call (.ref 192) [.ref acc]) Q E s :=
  part_count_spec X T F.keep (N _ hA).1 hr fun h' tk tk' k => h h' tk tk' (fr_all F k) (news_all N k)
theorem pop_F {y : Value} {newsF : Nat → List (Addr × Obj)} {Q : Value → Shared → Prop} (F : Fr g L s.heap m) (X : (hd.heap_1 w.params).In g) (T : TopRead p loose mg mb g) (N : News g L s.heap news) (hD : (d, accDict hs tn ti ne) ∈ news)
    (U : ∀ k, Upd acc (accObj d (its.push y) n) (accObj d its k) news (newsF k)) (hr : A.depth + 1 < recursionLimit) (hz : its.size ≤ 1000)
    (h : ∀ h' k tk, Fr g L h' m → News g L h' (newsF k) → Q y { s with heap := h', toks := tk }) :
    wpAny (model PR w) A (call (.ref 155) [.ref acc]) Q E s := by
  have hA : (acc, accObj d (its.push y) n) ∈ news := by
    obtain ⟨pre, post, e, _⟩ := (U 0).split
    rw [e]; exact List.mem_append.mpr (.inr (.head _))
  refine pop_spec X T F.keep (N _ hA).1 (N _ hA).2.2 (N _ hD).1 (N _ hD).2.2 hr hz fun h' k tk hacc kk => ?_
  obtain ⟨F', N'⟩ := step1 F N (U k) hacc kk
  exact h h' k tk F' N'
theorem popfrom_F {i : Nat} {u : Tok} {its' new : Array Value} {newsF : Nat → List (Addr × Obj)} {Q : Value → Shared → Prop} (F : Fr g L s.heap m) (X : (hd.heap_1 w.params).In g) (T : TopRead p loose mg mb g) (N : News g L s.heap news) (hA : (acc, accObj d its n) ∈ news) (hD : (d, accDict hs tn ti ne) ∈ news)
    (he : its.extract 0 i = its') (hw : (its.toList.drop i).toArray = new) (U : ∀ k, Upd acc (accObj d its n) (accObj d its' k) news (newsF k)) (hr : A.depth + 1 < recursionLimit) (hz : its.size ≤ 1000) (hi : i + 1 = its.size)
    (h : ∀ l h' k tk, Fr g L h' m → News g L h' ((l, lstObj new 0) :: newsF k) → (∀ p ∈ news, @Ne Nat p.1 l) → Q (.ref l) { s with heap := h', toks := tk }) :
    wpAny (model PR w) A (call (.ref 147) [.ref acc, .int i u]) Q E s := by
  subst he hw
  refine pop_from_spec X T F.keep (N _ hA).1 (N _ hA).2.2 (N _ hD).1 (N _ hD).2.2 hr hz hi fun l h' k tk hl hll hacc kk => ?_
  obtain ⟨F', N'⟩ := step1 F N (U k) hacc kk
  exact h l h' k tk F' (cons1 F N hl F' N' hll) (apart N hl)
theorem reset_F {l : Addr} {new : Array Value} {nl : Nat} {news₁ : Nat → List (Addr × Obj)} {newsF : Nat → Int → Tok → Tok → Nat → List (Addr × Obj)} {Q : Value → Shared → Prop} (F : Fr g L s.heap m) (X : (hd.heap_1 w.params).In g) (T : TopRead p loose mg mb g) (N : News g L s.heap news) (hl : (l, lstObj new nl) ∈ news)
    (U : ∀ k, Upd acc (accObj d its n) (accObj d new k) news (news₁ k)) (U2 : ∀ k hs' tn' ti' ne', Upd d (accDict hs tn ti ne) (accDict hs' tn' ti' ne') (news₁ k) (newsF k hs' tn' ti' ne')) (hD : (d, accDict hs tn ti ne) ∈ news) (hr : A.depth + 1 < recursionLimit) (hz : its.size ≤ 1000) (hn : new.size ≤ 1)
    (h : ∀ h' k hs' tn' ti' ne' tk, Fr g L h' m → News g L h' (newsF k hs' tn' ti' ne') → Q .none { s with heap := h', toks := tk }) :
    wpAny (model PR w) A (call (.ref 177) [.ref acc, .ref l]) Q E s := by
  have hA : (acc, accObj d its n) ∈ news := by
    obtain ⟨pre, post, e, _⟩ := (U 0).split
    rw [e]; exact List.mem_append.mpr (.inr (.head _))
  have hne : @Ne Nat acc d := fun q => by
    have h1 := (N _ hA).1; have h2 := (N _ hD).1
    dsimp only at h1 h2
    rw [q, h2] at h1; cases h1
  refine reset_spec X T F.keep (N _ hA).1 (N _ hA).2.2 (N _ hD).1 (N _ hD).2.2 (N _ hl).1 (N _ hl).2.2 hr hz hn fun h' k hs' tn' ti' ne' tk hacc hdd kk => ?_
  have step : Fr g L h' m ∧ News g L h' (newsF k hs' tn' ti' ne') := by
    have F' := fr_after (l := [acc, d]) F (fun b x hb e => kk b x (fun q => hb (q ▸ List.Mem.head _)) (fun q => hb (q ▸ List.Mem.tail _ (List.Mem.head _))) e) (fun b hb => by
      rcases List.mem_cons.mp hb with rfl | hb
      · exact ⟨(N _ hA).2.2, (N _ hA).2.1⟩
      · cases List.mem_singleton.mp hb; exact ⟨(N _ hD).2.2, (N _ hD).2.1⟩)
    refine ⟨F', ?_⟩
    obtain ⟨pre, post, e1, e2, p1, p2⟩ := (U k).split
    obtain ⟨pre', post', e3, e4, p3, p4⟩ := (U2 k hs' tn' ti' ne').split
    intro q hq
    have hmem : q = (d, accDict hs' tn' ti' ne') ∨ (q ∈ news₁ k ∧ q.1 ≠ d) := by
      rw [e4] at hq
      rcases List.mem_append.mp hq with hq | hq
      · exact .inr ⟨by rw [e3]; exact List.mem_append_left _ hq, p3 q hq⟩
      · rcases List.mem_cons.mp hq with rfl | hq
        · exact .inl rfl
        · exact .inr ⟨by rw [e3]; exact List.mem_append_right _ (List.mem_cons_of_mem _ hq), p4 q hq⟩
    rcases hmem with rfl | ⟨hq1, hqd⟩
    · exact ⟨hdd, (N _ hD).2⟩
    · rw [e2] at hq1
      rcases List.mem_append.mp hq1 with hq1 | hq1
      · have := N q (by rw [e1]; exact List.mem_append_left _ hq1)
        exact ⟨kk _ _ (p1 q hq1) hqd this.1, this.2⟩
      · rcases List.mem_cons.mp hq1 with rfl | hq1
        · exact ⟨hacc, (N _ hA).2⟩
        · have := N q (by rw [e1]; exact List.mem_append_right _ (List.mem_cons_of_mem _ hq1))
          exact ⟨kk _ _ (p2 q hq1) hqd this.1, this.2⟩
  exact h h' k hs' tn' ti' ne' tk step.1 step.2
theorem len_F {tb : Array Value} {ps : List (Str × Str)} {newsF : Array Value → List (Addr × Obj)} {Q : Value → Shared → Prop} (F : Fr g L s.heap m) (G : Gd w p loose mg mb g) (N : News g L s.heap news) (hA : (acc, accObj d its n) ∈ news) (hD : (d, accDict hs tn ti ne) ∈ news)
    (htr : TriplesOk tb.toList) (U : ∀ tb', Upd 157 (tabObj tb) (tabObj tb') news (newsF tb')) (hp : Parts s.heap its.toList ps) (hh : A.handled = none) (hr : A.depth + 2 < recursionLimit) (hB : AllBare s.gens) (hz : ps.length ≤ 1000) (hz2 : ∀ q ∈ ps, q.1.length ≤ 1000 ∧ q.2.length ≤ 1000)
    (h : ∀ h' gs tb' tk tk', TriplesOk tb'.toList → AllBare gs → Fr g L h' m → News g L h' (newsF tb') → Q (.int (lens ps) tk') ⟨h', gs, s.drawn, tk, s.os⟩) :
    wpAny (model PR w) A (call (.ref 162) [.ref acc]) Q E s := by
  have hP : (157, tabObj tb) ∈ news := by
    obtain ⟨pre, post, e, _⟩ := (U #[]).split
    rw [e]; exact List.mem_append.mpr (.inr (.head _))
  refine len_spec G F.keep (N _ hA).1 (N _ hA).2.2 (N _ hD).1 (N _ hD).2.2 hp ⟨tb, (N _ hP).1, htr⟩ (N _ hP).2.2 hh hr hB hz hz2 fun h' gs tk tk' hT' hB' kk => ?_
  obtain ⟨tb', hP', htr'⟩ := hT'
  obtain ⟨F', N'⟩ := step1 F N (U tb') hP' kk
  exact h h' gs tb' tk tk' htr' hB' F' N'
theorem str_F {tb : Array Value} {ps : List (Str × Str)} {newsF : Array Value → List (Addr × Obj)} {Q : Value → Shared → Prop} (F : Fr g L s.heap m) (G : Gd w p loose mg mb g) (N : News g L s.heap news) (hA : (acc, accObj d its n) ∈ news) (hD : (d, accDict hs tn ti ne) ∈ news)
    (htr : TriplesOk tb.toList) (U : ∀ tb', Upd 164 (tabObj tb) (tabObj tb') news (newsF tb')) (hp : Parts s.heap its.toList ps) (hh : A.handled = none) (hr : A.depth + 2 < recursionLimit) (hB : AllBare s.gens) (hz : ps.length ≤ 1000) (hz2 : ∀ q ∈ ps, q.1.length ≤ 1000 ∧ q.2.length ≤ 1000)
    (h : ∀ h' gs tb' tk tk', TriplesOk tb'.toList → AllBare gs → Fr g L h' m → News g L h' (newsF tb') → Q (.str (catParts ps) tk') ⟨h', gs, s.drawn, tk, s.os⟩) :
    wpAny (model PR w) A (call (.ref 169) [.ref acc]) Q E s := by
  have hP : (164, tabObj tb) ∈ news := by
    obtain ⟨pre, post, e, _⟩ := (U #[]).split
    rw [e]; exact List.mem_append.mpr (.inr (.head _))
  refine str_spec G F.keep (N _ hA).1 (N _ hA).2.2 (N _ hD).1 (N _ hD).2.2 hp ⟨tb, (N _ hP).1, htr⟩ (N _ hP).2.2 hh hr hB hz hz2 fun h' gs tk tk' hT' hB' kk => ?_
  obtain ⟨tb', hP', htr'⟩ := hT'
  obtain ⟨F', N'⟩ := step1 F N (U tb') hP' kk
  exact h h' gs tb' tk tk' htr' hB' F' N'
end
end
section
inductive Drop (I : Addr) : List (Addr × Obj) → List (Addr × Obj) → Prop
  | head {o r} : (∀ p ∈ r, p.1 ≠ I) → Drop I ((I, o) :: r) r
  | tail {p r r'} : p.1 ≠ I → Drop I r r' → Drop I (p :: r) (p :: r')
theorem Drop.sub {I : Addr} : ∀ {l l' : List (Addr × Obj)}, Drop I l l' → ∀ q ∈ l', q ∈ l ∧ q.1 ≠ I
  | _, _, .head h => fun q hq => ⟨List.mem_cons_of_mem _ hq, h q hq⟩
  | _, _, .tail (p := p) h r => fun q hq => by
    rcases List.mem_cons.mp hq with rfl | hq
    · exact ⟨.head _, h⟩
    · exact ⟨.tail _ (r.sub q hq).1, (r.sub q hq).2⟩
section
variable {prog : Program} {w : World} {A : Around} {E : Value → Shared → Prop} {s : Shared} {g h h' : Heap} {L I : Addr} {m : Str → Option Value} {news news' : List (Addr × Obj)}
theorem pushed {o : Obj} (F : Fr g L s.heap m) (N : News g L s.heap news) (hf : o.isFreed = false) : Fr g L (s.heap.push o) m ∧ News g L (s.heap.push o) ((s.heap.objs.size, o) :: news) ∧ ∀ p ∈ news, @Ne Nat p.1 s.heap.objs.size :=
  ⟨F.push o, News.push F N o hf, fun p hp => Nat.ne_of_lt (Heap.lt_size (N p hp).1)⟩
theorem dropped {l : List (Addr × Obj)} (F : Fr g L h m) (N : News g L h l) {o : Obj} (hm : (I, o) ∈ l) (D : Drop I l news') (k : Heap.ExtBut I h h') : Fr g L h' m ∧ News g L h' news' :=
  ⟨fr_after (l := [I]) F (fun b x hb e => k b x (fun q => hb (q ▸ List.Mem.head _)) e) (fun b hb => by cases List.mem_singleton.mp hb; exact ⟨(N _ hm).2.2, (N _ hm).2.1⟩),
   fun q hq => ⟨k _ _ (D.sub q hq).2 (N _ (D.sub q hq).1).1, (N _ (D.sub q hq).1).2⟩⟩
noncomputable abbrev StrIt (o : Obj) (x : Str) (t : Tok) (i : Nat) : Prop := o.cls = .type "str_ascii_iterator" ∧ o.data = .fields #[.str x t, .int i 0]
theorem iter_strF {x : Str} {t : Tok} {Q : Value → Shared → Prop} (F : Fr g L s.heap m) (N : News g L s.heap news) (ha : x.cps.all (· < 128) = true)
    (h : ∀ I o h', StrIt o x t 0 → Fr g L h' m → News g L h' ((I, o) :: news) → (∀ p ∈ news, @Ne Nat p.1 I) → Q (.ref I) { s with heap := h' }) : wpAny (model prog w) A (pyIter (.str x t)) Q E s := by
  obtain ⟨F', N', lt⟩ := pushed (o := { cls := .type "str_ascii_iterator", data := .fields #[.str x t, .int 0 0] }) F N rfl
  exact wpAny_pyIter_ascii ha (h _ _ _ ⟨rfl, rfl⟩ F' N' lt)
theorem next_strF {o : Obj} {x : Str} {t : Tok} {i c : Nat} {newsF : Obj → List (Addr × Obj)} {Q : Option Value → Shared → Prop} (F : Fr g L s.heap m) (N : News g L s.heap news) (ho : StrIt o x t i) (U : ∀ o', Upd I o o' news (newsF o')) (hc : x.cps[i]? = some c)
    (h : ∀ o' h' tk, StrIt o' x t (i + 1) → Fr g L h' m → News g L h' (newsF o') → Q (some (.str ⟨#[c]⟩ tk)) { s with heap := h', toks := s.toks + 1 }) : wpAny (model prog w) A (pyNext (.ref I)) Q E s := by
  have hm : (I, o) ∈ news := by
    obtain ⟨pre, post, e, _⟩ := (U o).split
    rw [e]; exact List.mem_append.mpr (.inr (.head _))
  refine wpAny_pyNext_ascii_item ⟨o, (N _ hm).1, ho⟩ hc fun h' hit hs => ?_
  obtain ⟨o', hg', ho'⟩ := hit
  obtain ⟨F', N'⟩ := step1 F N (U o') hg' fun b y hb e => (hs.2 b hb).trans e
  exact h o' h' _ ho' F' N'
theorem next_str_endF {o : Obj} {x : Str} {t : Tok} {i : Nat} {Q : Option Value → Shared → Prop} (hh : A.handled = none) (F : Fr g L s.heap m) (N : News g L s.heap news) (ho : StrIt o x t i) (hm : (I, o) ∈ news) (D : Drop I news news') (hc : x.cps[i]? = none)
    (h : ∀ h', Fr g L h' m → News g L h' news' → Q none { s with heap := h' }) : wpAny (model prog w) A (pyNext (.ref I)) Q E s := by
  refine wpAny_pyNext_ascii_end hh ⟨o, (N _ hm).1, ho⟩ hc fun h' hs => ?_
  obtain ⟨F', N'⟩ := dropped F N hm D hs
  exact h h' F' N'
noncomputable abbrev rngObj (a b c : Int) (t u v : Tok) : Obj := { cls := .type "range", dict := none, data := .fields #[.int a t, .int b u, .int c v], slots := #[] }
noncomputable abbrev rngIt (x left step : Int) : Obj := { cls := .type "range_iterator", dict := none, data := .fields #[rawInt x, rawInt left, rawInt step], slots := #[] }
theorem iter_rangeF {r : Addr} {a b c : Int} {t u v : Tok} {Q : Value → Shared → Prop} (F : Fr g L s.heap m) (N : News g L s.heap news) (hr : s.heap.get? r = some (rngObj a b c t u v)) (hsmall : Builtin.Range.small a b c = true)
    (h : ∀ I h', Fr g L h' m → News g L h' ((I, rngIt a (Builtin.Range.rangeSize a b c) c) :: news) → (∀ p ∈ news, @Ne Nat p.1 I) → Q (.ref I) { s with heap := h' }) : wpAny (model prog w) A (pyIter (.ref r)) Q E s := by
  obtain ⟨F', N', lt⟩ := pushed (o := rngIt a (Builtin.Range.rangeSize a b c) c) F N rfl
  exact wpAny_pyIter_range hr hsmall (h _ _ F' N' lt)
theorem next_rangeF {x left step : Int} {news' : List (Addr × Obj)} {Q : Option Value → Shared → Prop} (F : Fr g L s.heap m) (N : News g L s.heap news) (U : Upd I (rngIt x left step) (rngIt (x + step) (left - 1) step) news news') (hl : 0 < left)
    (h : ∀ h' tk, Fr g L h' m → News g L h' news' → Q (some (.int x tk)) { s with heap := h', toks := s.toks + 1 }) : wpAny (model prog w) A (pyNext (.ref I)) Q E s := by
  have hm : (I, rngIt x left step) ∈ news := by
    obtain ⟨pre, post, e, _⟩ := U.split
    rw [e]; exact List.mem_append.mpr (.inr (.head _))
  refine wpAny_pyNext_range_item (N _ hm).1 hl fun h' hit hs => ?_
  obtain ⟨F', N'⟩ := step1 F N U hit fun b y hb e => (hs.2 b hb).trans e
  exact h h' _ F' N'
theorem next_range_endF {x left step : Int} {Q : Option Value → Shared → Prop} (hh : A.handled = none) (F : Fr g L s.heap m) (N : News g L s.heap news) (hm : (I, rngIt x left step) ∈ news) (D : Drop I news news') (hl : left ≤ 0)
    (h : ∀ h', Fr g L h' m → News g L h' news' → Q none { s with heap := h' }) : wpAny (model prog w) A (pyNext (.ref I)) Q E s := by
  refine wpAny_pyNext_range_end hh (N _ hm).1 hl fun h' hs => ?_
  obtain ⟨F', N'⟩ := dropped F N hm D hs
  exact h h' F' N'
end
section
variable {w : World} {A : Around} {E : Value → Shared → Prop} {s : Shared} {x d L : Addr} {its : Array Value} {n : Nat} {h₀ : Heap} {m : Str → Option Value} {news news' : List (Addr × Obj)}
theorem item_accF {k : Int} {u : Tok} {y : Value} {value slice : Expr} {Q : Value → Shared → Prop} (F : Fr h₀ L s.heap m) (X₀ : (hd.heap_1 w.params).In h₀) (N : News h₀ L s.heap news) (hm : (x, accObj d its n) ∈ news)
    (h0 : 0 ≤ k) (hfit : k < 2 ^ 63) (hk : its[k.toNat]? = some y) (h : Q y s) (hs : subscripted slice false (.ref x) (.int k u) = operate [.ref x, .int k u] (getItem (.ref x) (.int k u))) : wpAny (model PR w) A (subscriptTail value slice (.ref x) (.int k u)) Q E s :=
  sub_acc (X₀.keeps F.keep) (N _ hm).1 (by k_is) (item_acc (X₀.keeps F.keep) (N _ hm).1 (by k_is) (by k_is) (by k_is) h0 hfit hk h) hs
end
theorem units_2 {A : Around} {env : Env} (h : A.units + 5 < cLine) : (A.deeper env).in1.in1.units < cLine := h
end

local macro_rules | `(tactic| k_ne) => `(tactic| (refine neN ?_; (try dsimp only); first | exact Apart.neq (by assumption) | exact (Apart.neq (by assumption)).symm | omega))
example : True := by
  k_with "my_room" =>
    first | exact om_u (by assumption) (by decide) | exact om_w (by assumption) (by decide) | omega | (simp only [depth_in1, depth_deeper]; omega)
  k_with "k_parts" =>
    first
      | exact Parts.keeps ‹Parts _ _ _› (fun b o e _ => (Fr.keep ‹Fr _ _ _ _›) b o e)
      | (rw [Array.toList_push]; exact Parts.append (Parts.keeps ‹Parts _ _ _› (fun b o e _ => (Fr.keep ‹Fr _ _ _ _›) b o e)) (.cons (‹News _ _ _ _› _ (by k_mem)).1 .nil))
  k_with "call ref" =>
    (k_here; (with_reducible show wpAny _ _ (call (Value.ref 139) _) _ _ _); k_dflt
      (refine' push_F ?qFz ?qXz ?qTz ?qNz ?qDz ?qUz ?qrz ?qzz ?_; (case qFz => k_asm); (case qXz => k_asm); (case qTz => k_asm); (case qNz => k_asm); (case qUz => intro zt; k_upd); (case qDz => k_mem); (case qrz => k_extra "my_room"); (case qzz => first | assumption | exact Nat.le_trans (by assumption) (by decide) | (simp; omega) | omega); k_whole); intro _ _ _ _ _ zlt; ((replace zlt := allNe_of zlt); (simp only [AllNe, and_true] at zlt); (repeat ((have _ := And.left zlt); (replace zlt := And.right zlt)))); (try (revert zlt; intro _)); (try k_sweep))
  k_with "call ref" =>
    (k_here; (with_reducible show wpAny _ _ (call (Value.ref 192) _) _ _ _); k_dflt
      (refine' pcount_F ?qFz ?qXz ?qTz ?qNz ?qAz ?qrz ?_; (case qFz => k_asm); (case qXz => k_asm); (case qTz => k_asm); (case qNz => k_asm); (case qAz => k_mem); (case qrz => k_extra "my_room"); k_whole); intro _ _ _ _ _; (try k_sweep))
  k_with "call ref" =>
    (k_here; (with_reducible show wpAny _ _ (call (Value.ref 155) _) _ _ _); k_dflt
      (refine' pop_F ?qFz ?qXz ?qTz ?qNz ?qDz ?qUz ?qrz ?qzz ?_; (case qFz => k_asm); (case qXz => k_asm); (case qTz => k_asm); (case qNz => k_asm); (case qUz => intro zk; k_upd); (case qDz => k_mem); (case qrz => k_extra "my_room"); (case qzz => first | assumption | exact Nat.le_trans (by assumption) (by decide) | (simp; omega) | omega); k_whole); intro _ _ _ _ _; (try k_sweep))
  k_with "call ref" =>
    (k_here; (with_reducible show wpAny _ _ (call (Value.ref 147) _) _ _ _); k_dflt
      (refine' popfrom_F ?qFz ?qXz ?qTz ?qNz ?qAz ?qDz ?qez ?qwz ?qUz ?qrz ?qzz ?qiz ?_; (case qFz => k_asm); (case qXz => k_asm); (case qTz => k_asm); (case qNz => k_asm); (case qAz => k_mem); (case qez => first | assumption | apply_assumption); (case qwz => first | assumption | apply_assumption); (case qUz => intro zk; k_upd); (case qDz => k_mem); (case qrz => k_extra "my_room"); (case qzz => first | assumption | exact Nat.le_trans (by assumption) (by decide) | (simp; omega) | omega); (case qiz => first | assumption | (simp; done) | (simp; omega) | omega); k_whole); intro _ _ _ _ _ _ zlt; ((replace zlt := allNe_of zlt); (simp only [AllNe, and_true] at zlt); (repeat ((have _ := And.left zlt); (replace zlt := And.right zlt)))); (try (revert zlt; intro _)); (try k_sweep))
  k_with "call ref" =>
    (k_here; (with_reducible show wpAny _ _ (call (Value.ref 177) [_, _]) _ _ _); k_dflt
      (refine' reset_F ?qFz ?qXz ?qTz ?qNz ?qlz ?qUz ?qU2z ?qDz ?qrz ?qzz ?qnz ?_; (case qFz => k_asm); (case qXz => k_asm); (case qTz => k_asm); (case qNz => k_asm); (case qlz => k_mem); (case qUz => intro zk; k_upd); (case qU2z => intro zk zhs1 ztn1 zti1 zne1; k_upd); (case qDz => k_mem); (case qrz => k_extra "my_room"); (case qzz => first | assumption | exact Nat.le_trans (by assumption) (by decide) | (simp; omega) | omega); (case qnz => first | assumption | (simp; done) | (simp; omega) | omega); k_whole); intro _ _ _ _ _ _ _ _ _; (try k_sweep))
  k_with "call ref" =>
    (k_here; (with_reducible show wpAny _ _ (call (Value.ref 162) _) _ _ _); k_dflt
      (refine' len_F ?qFz ?qGz ?qNz ?qAz ?qDz ?qtrz ?qUz ?qhpz ?qhhz ?qrz ?qBz ?qzz ?qz2z ?_; (case qFz => k_asm); (case qGz => assumption); (case qNz => k_asm); (case qAz => k_mem); (case qDz => k_mem); (case qUz => intro _; k_upd); (case qtrz => assumption); (case qhpz => k_extra "k_parts"); (case qhhz => first | assumption | exact hh); (case qrz => k_extra "my_room"); (case qBz => assumption); (case qzz => first | assumption | exact Nat.le_trans (by assumption) (by decide) | (simp; omega) | omega); (case qz2z => assumption); k_whole); intro _ _ _ _ _ _ _ _ _; (try k_sweep))
  k_with "call ref" =>
    (k_here; (with_reducible show wpAny _ _ (call (Value.ref 169) _) _ _ _); k_dflt
      (refine' str_F ?qFz ?qGz ?qNz ?qAz ?qDz ?qtrz ?qUz ?qhpz ?qhhz ?qrz ?qBz ?qzz ?qz2z ?_; (case qFz => k_asm); (case qGz => assumption); (case qNz => k_asm); (case qAz => k_mem); (case qDz => k_mem); (case qUz => intro _; k_upd); (case qtrz => assumption); (case qhpz => k_extra "k_parts"); (case qhhz => first | assumption | exact hh); (case qrz => k_extra "my_room"); (case qBz => assumption); (case qzz => first | assumption | exact Nat.le_trans (by assumption) (by decide) | (simp; omega) | omega); (case qz2z => assumption); k_whole); intro _ _ _ _ _ _ _ _ _; (try k_sweep))
  k_with "my_drop" =>
    first | (refine' Drop.head ?qaz; (case qaz => k_all)) | (refine' Drop.tail ?qaz ?qbz; (case qaz => k_ne); (case qbz => k_extra "my_drop"))
  k_with "subscriptTail" =>
    (k_here; (with_reducible show wpAny _ _ (subscriptTail _ _ (Value.ref _) (Value.int _ _)) _ _ _); k_dflt
      (refine' item_accF ?qFz ?qXz ?qNz ?qmz ?qzz ?qfz ?qkz ?_ ?qsz; (case qFz => k_asm); (case qXz => k_asm); (case qNz => k_asm); (case qmz => k_mem); (case qkz => first | assumption | apply_assumption); (case qzz => first | exact Nat.le_trans (by assumption) (by decide) | omega); (case qfz => omega); (case qsz => exact rfl); k_whole))
  k_with "assign Tuple" =>
    (k_here; (with_reducible show wpAny _ _ (assign (Expr.Tuple _ _ _) _ (Value.ref _)) _ _ _); k_dflt (refine' unpackN_ ?qFz ?qNz ?qTz ?qk1z ?qk2z ?qk3z ?_; (case qFz => k_asm); (case qNz => k_asm); (case qTz => first | with_reducible assumption | (refine News.isTup (by k_asm) (by k_mem))); (case qk1z => assumption); (case qk2z => exact rfl); (case qk3z => exact rfl)); intro _ _ _; (try k_sweep))
  k_with "call type:str" =>
    (k_here; (with_reducible show wpAny _ _ (call (Value.type "str") [Value.ref _]) _ _ _); k_dflt (refine' kso_call ?qk1z ?qk2z ?qk3z ?qk4z ?qk5z ?_; (case qk1z => (refine units_2 ?_; first | exact om_w (by assumption) (by decide) | omega)); (case qk2z => k_in); (case qk3z => k_inst); (case qk4z => k_is); (case qk5z => k_is); k_whole))
  trivial
section
example : True := by
  k_with "goE" =>
    repeat' ((fail_if_success (with_reducible show wpAny _ _ (exec (Stmt.For _ _ _ _ _) _) _ _ _)); (fail_if_success (with_reducible show wpAny _ _ (pyIter _) _ _ _)); first | (k_unfold; (try dsimp only)) | walk1 | (dsimp only; walk1) | fail "no step")
  trivial

theorem lens_le : ∀ l : List (Str × Str), (∀ q ∈ l, q.1.length ≤ 1000 ∧ q.2.length ≤ 1000) → lens l ≤ 2000 * l.length
  | [], _ => Nat.le_refl _
  | q :: r, hq => by
    have h1 := hq q (.head _)
    have h2 := lens_le r fun x hx => hq x (.tail _ hx)
    simp only [lens, List.map_cons, List.sum_cons, List.length_cons] at h2 ⊢
    omega
noncomputable def stepA (width : Int) (st : List Str × List (Str × Str)) (q : Str × Str) : List Str × List (Str × Str) :=
  if width < lens (st.2 ++ [q]) then (if st.2 = [] then (st.1, [q]) else (st.1 ++ [catParts st.2], [q])) else (st.1, st.2 ++ [q])
theorem fmt_close {g h : Heap} {L fm df ls acc d : Addr} {width : Int} {cws sp : Str} {lines : List Str} {ps : List (Str × Str)} {led : List (Addr × Obj)} {f : FD} {nf nl n ne : Nat} {vs its : Array Value} {hs : Int} {tn ti : Tok} (N : News g L h led)
    (m1 : (fm, fmtObj df) ∈ led) (m2 : (df, fmtDict f width cws sp ls acc nf) ∈ led) (m3 : (ls, lstObj vs nl) ∈ led) (m4 : (acc, accObj d its n) ∈ led) (m5 : (d, accDict hs tn ti ne) ∈ led) (hv : StrsAre vs.toList lines) (hp : Parts h its.toList ps) (hne : @Ne Nat d df) :
    Fmt h fm df ls acc d width cws sp lines ps :=
  ⟨hne, (N _ m1).1, ⟨f, nf, (N _ m2).1⟩, ⟨vs, nl, (N _ m3).1, hv⟩, ⟨its, n, (N _ m4).1, hp⟩, ⟨hs, tn, ti, ne, (N _ m5).1⟩⟩
theorem size_down {k : Nat} : Builtin.Range.rangeSize (k : Int) 0 (-1) = k := by
  unfold Builtin.Range.rangeSize
  simp
  omega
theorem small_down {k : Nat} (h : k ≤ 100) : Builtin.Range.small (k : Int) 0 (-1) = true := by
  unfold Builtin.Range.small
  rw [size_down]
  simp [Builtin.Range.rangeFitsLong]
  omega
theorem strsAre_append {a b : List Value} {x y : List Str} (h : StrsAre a x) (k : StrsAre b y) : StrsAre (a ++ b) (x ++ y) := by
  induction h with
  | nil => exact k
  | cons s t _ ih => exact .cons s t ih
theorem append_spec {w : World} {A : Around} {s : Shared} {g : Heap} {p : Program} {loose : List Str} {mg mb : Str → Option Value} {fm df ls acc d : Addr} {width : Int} {cws : Str} {lines : List Str} {ps : List (Str × Str)} {Q E : Value → Shared → Prop}
    {fws tx : Str} {tf tt : Tok}
    (G : Gd w p loose mg mb g) (st : g.StaysIn s.heap) (Z : Fmt s.heap fm df ls acc d width cws " " lines ps) (hg : ∀ a ∈ [fm, df, ls, acc, d, 157, 164], g.get? a = none) (hT : TabI 157 s.heap) (hT2 : TabI 164 s.heap)
    (hh : A.handled = none) (hu : A.units + 100 < cLine) (hr : A.depth + 4 < recursionLimit) (hB : AllBare s.gens) (hz : ps.length ≤ 100) (hz2 : ∀ q ∈ ps, q.1.length ≤ 1000 ∧ q.2.length ≤ 1000) (hz3 : fws.length ≤ 1000 ∧ tx.length ≤ 1000) (hz4 : lines.length ≤ 1000) (hsp : ps ≠ [] → fws = " ")
    (h : ∀ h' gs tk lines' ps', (lines', ps') = stepA width (lines, ps) (fws, tx) → Fmt h' fm df ls acc d width cws " " lines' ps' → TabI 157 h' → TabI 164 h' → AllBare gs → (∀ b o, b ∉ [ls, acc, d, 157, 164] → s.heap.get? b = some o → h'.get? b = some o) → Q .none ⟨h', gs, s.drawn, tk, s.os⟩) :
    wpAny (model PR w) A (call (.ref 108) [.ref fm, .str fws tf, .str tx tt]) Q E s := by
  obtain ⟨tb1, hP1, htr1⟩ := hT
  obtain ⟨tb2, hP2, htr2⟩ := hT2
  obtain ⟨hne, hfm, ⟨f, nf, hdf⟩, ⟨vs, nl, hls, hvs⟩, ⟨its, n, hacc, hps⟩, ⟨hs, tn, ti, ne, hdd⟩⟩ := Z
  have n1 : Apart fm df := apart_of_obj hfm hdf (by simp)
  have n2 : Apart fm ls := apart_of_obj hfm hls (by simp)
  have n3 : Apart fm acc := apart_of_obj hfm hacc (by simp)
  have n4 : Apart fm d := apart_of_obj hfm hdd (by simp)
  have n5 : Apart fm 157 := apart_of_obj hfm hP1 (by simp)
  have n6 : Apart fm 164 := apart_of_obj hfm hP2 (by simp)
  have n7 : Apart df ls := apart_of_obj hdf hls (by simp)
  have n8 : Apart df acc := apart_of_obj hdf hacc (by simp)
  have n9 : Apart df 157 := apart_of_obj hdf hP1 (by simp)
  have n10 : Apart df 164 := apart_of_obj hdf hP2 (by simp)
  have n11 : Apart ls acc := apart_of_obj hls hacc (by simp)
  have n12 : Apart ls d := apart_of_obj hls hdd (by simp)
  have n13 : Apart ls 157 := apart_of_obj hls hP1 (by simp)
  have n14 : Apart ls 164 := apart_of_obj hls hP2 (by simp)
  have n15 : Apart acc d := apart_of_obj hacc hdd (by simp)
  have n16 : Apart acc 157 := apart_of_obj hacc hP1 (by simp)
  have n17 : Apart acc 164 := apart_of_obj hacc hP2 (by simp)
  have n18 : Apart d 157 := apart_of_obj hdd hP1 (by simp)
  have n19 : Apart d 164 := apart_of_obj hdd hP2 (by simp)
  have n20 : Apart 157 164 := by unfold Apart; decide
  have n21 : Apart d df := hne
  have hsz : its.size = ps.length := by have := hps.length; simpa using this
  refine wpAny_call ?_
  refine' enter (binds := [("self", .ref fm), ("fws", .str fws tf), ("string", .str tx tt)]) (led := [(fm, fmtObj df), (df, fmtDict f width cws " " ls acc nf), (ls, lstObj vs nl), (acc, accObj d its n), (d, accDict hs tn ti ne), (157, tabObj tb1), (164, tabObj tb2)]) G.K G.T st ?hl ?ho ?hcd (om_0 hr) ?hb ?hloc ?_ ?hcell ?hco ?hgen ?hk
  case hl => simp only [List.forall_mem_cons, List.mem_cons, forall_eq_or_imp] at hg ⊢; simp_all
  case ho => k_is
  case hcd => k_is
  case hb => exact BindsTo.of_eq rfl
  case hloc => rfl
  case hcell => decide
  case hco => rfl
  case hgen => rfl
  case hk => rfl
  intro g' h₁ kp st' kp₁ F' N' X' T'
  have G' : Gd w p loose mg mb g' := ⟨X', T', G.B.keeps st'⟩
  have hpg : Parts g' its.toList ps := hps.keeps fun b o e ⟨a, b', q⟩ => kp _ _ e (by
    subst q; simp only [List.map_cons, List.map_nil, List.mem_cons, List.not_mem_nil, or_false]; rintro (rfl | rfl | rfl | rfl | rfl | rfl | rfl) <;> simp_all)
  have hb2 : ∀ q ∈ ps ++ [(fws, tx)], q.1.length ≤ 1000 ∧ q.2.length ≤ 1000 := fun q hq => by
    rcases List.mem_append.mp hq with hq | hq
    · exact hz2 q hq
    · cases List.mem_singleton.mp hq; exact hz3
  have hlb := lens_le _ hb2
  rw [List.length_append, List.length_singleton] at hlb
  k_extra "goE"
  refine ⟨⟨by omega, by omega⟩, ?_⟩
  dsimp only
  have hframe : ∀ h' m led', Fr g' s.heap.objs.size h' m → News g' s.heap.objs.size h' led' → (fm, fmtObj df) ∈ led' → (df, fmtDict f width cws " " ls acc nf) ∈ led' → ∀ b o, b ∉ [ls, acc, d, 157, 164] → s.heap.get? b = some o → h'.get? b = some o := fun h' m led' F N q1 q2 b o hb e => by
    by_cases e1 : b = fm
    · subst e1; rw [hfm] at e; cases e; exact (N _ q1).1
    by_cases e2 : b = df
    · subst e2; rw [hdf] at e; cases e; exact (N _ q2).1
    · exact F.keep _ _ (kp _ _ e (by simp only [List.map_cons, List.map_nil, List.mem_cons, List.not_mem_nil, or_false, not_or] at hb ⊢; exact ⟨e1, e2, hb⟩))
  k_extra "goE"
  case' _ => skip
  rotate_left
  · rename Fr _ _ _ _ => F
    rename News _ _ _ _ => N
    rename ¬ (width < _) => hw
    refine h _ _ _ lines (ps ++ [(fws, tx)]) (by unfold stepA; rw [if_neg hw]) (fmt_close N (by k_mem) (by k_mem) (by k_mem) (by k_mem) (by k_mem) hvs (by k_extra "k_parts") hne) ⟨_, (N (157, _) (by k_mem)).1, by assumption⟩ ⟨_, (N (164, _) (by k_mem)).1, by assumption⟩ (by assumption) (hframe _ _ _ F N (by k_mem) (by k_mem))
  refine wpAny_For ?_
  k_extra "goE"
  rename Fr _ _ _ _ => F
  rename News _ _ _ _ => N
  refine iter_strF F N (by decide +kernel) fun I o h3 ho F3 N3 lt3 => ?_
  clear F N
  ((replace lt3 := allNe_of lt3); (simp only [AllNe, and_true] at lt3); (repeat ((have _ := And.left lt3); (replace lt3 := And.right lt3))))
  refine for_step ?_
  refine next_strF (c := 32) F3 N3 ho (fun o' => by k_upd) rfl fun o4 h4 tk4 ho4 F4 N4 => ?_
  clear F3 N3
  refine wpAny_of_eq (a := ()) rfl ?_
  refine wpAny_assign_Name ?_
  k_extra "goE"
  refine wpAny_For ?_
  k_extra "goE"
  rename Fr _ _ _ _ => F
  rename News _ _ _ _ => N
  rename IsRange _ _ _ _ _ _ _ _ => hR
  rw [show ((its.push _).size : Int) - 1 = (ps.length : Int) from by simp; omega] at hR
  refine iter_rangeF F N hR (small_down hz) fun J h5 F5 N5 lt5 => ?_
  rw [size_down] at N5
  clear F N hR
  ((replace lt5 := allNe_of lt5); (simp only [AllNe, and_true] at lt5); (repeat ((have _ := And.left lt5); (replace lt5 := And.right lt5))))
  refine for_step ?_
  by_cases hps0 : ps = []
  · have hp0 : ps.length = 0 := by rw [hps0]; rfl
    refine next_range_endF hh F5 N5 (List.Mem.head _) (by k_extra "my_drop") (by omega) fun h6 F6 N6 => ?_
    clear F5 N5
    dsimp only
    k_extra "goE"
    dsimp only
    refine for_step ?_
    refine next_str_endF hh F6 N6 ho4 (List.Mem.head _) (by k_extra "my_drop") (by decide +kernel) fun h7 F7 N7 => ?_
    clear F6 N6
    dsimp only
    k_extra "goE"
    rename Fr _ _ _ _ => F
    rename News _ _ _ _ => N
    rename (width : Int) < _ => hw
    refine h _ _ _ lines [(fws, tx)] (by unfold stepA; rw [if_pos hw, if_pos hps0]) (fmt_close N (by k_mem) (by k_mem) (by k_mem) (by k_mem) (by k_mem) hvs ?_ hne) ⟨_, (N (157, _) (by k_mem)).1, by assumption⟩ ⟨_, (N (164, _) (by k_mem)).1, by assumption⟩ (by assumption) (hframe _ _ _ F N (by k_mem) (by k_mem))
    have he : its = #[] := by apply Array.eq_empty_of_size_eq_zero; omega
    rw [he]
    exact .cons (N _ (List.Mem.head _)).1 .nil
  · have hpos : 0 < ps.length := List.length_pos_iff.mpr hps0
    have hfw := hsp hps0
    refine next_rangeF F5 N5 (by k_upd) (by omega) fun h6 tk6 F6 N6 => ?_
    clear F5 N5
    rw [hfw] at N6
    refine wpAny_of_eq (a := ()) rfl ?_
    refine wpAny_assign_Name ?_
    have hget : ∀ t, (its.push (.ref t))[((ps.length : Int)).toNat]? = some (.ref t) := fun t => by rw [show ((ps.length : Int)).toNat = its.size from by omega]; exact Array.getElem?_push_size
    have hex : ∀ t, (its.push t).extract 0 ps.length = its := fun t => by
      rw [← hsz]
      apply Array.ext'
      simp
    have hdr : ∀ t, ((its.push t).toList.drop ps.length).toArray = #[t] := fun t => by
      rw [← hsz]
      simp
    k_extra "goE"
    unfold StrBack
    dsimp only
    k_extra "goE"
    rename Fr _ _ _ _ => F
    rename News _ _ _ _ => N
    rename (width : Int) < _ => hw
    refine h _ _ _ (lines ++ [catParts ps]) [(fws, tx)] (by unfold stepA; rw [if_pos hw, if_neg hps0]) (fmt_close N (by k_mem) (by k_mem) (by k_mem) (by k_mem) (by k_mem) ?_ ?_ hne) ⟨_, (N (157, _) (by k_mem)).1, by assumption⟩ ⟨_, (N (164, _) (by k_mem)).1, by assumption⟩ (by assumption) (hframe _ _ _ F N (by k_mem) (by k_mem))
    · rw [Array.toList_push]; exact strsAre_append hvs (.cons _ _ .nil)
    · rw [hfw]; exact .cons (N _ (List.Mem.tail _ (List.Mem.tail _ (List.Mem.tail _ (List.Mem.head _))))).1 .nil
end
section
theorem Parts.unsnoc {h : Heap} {its₁ : Array Value} {ps : List (Str × Str)} {f p : Str} (x : Parts h its₁.toList (ps ++ [(f, p)])) : ∃ (its : Array Value) (t : Addr) (tf tp : Tok), its₁ = its.push (.ref t) ∧ Parts h its.toList ps ∧ h.get? t = some (tupObj [.str f tf, .str p tp]) := by
  have aux : ∀ (vs : List Value) (ps : List (Str × Str)), Parts h vs (ps ++ [(f, p)]) → ∃ (us : List Value) (t : Addr) (tf tp : Tok), vs = us ++ [.ref t] ∧ Parts h us ps ∧ h.get? t = some (tupObj [.str f tf, .str p tp]) := fun vs ps => by
    induction ps generalizing vs with
    | nil =>
      intro x
      cases x with
      | cons e r => cases r; exact ⟨[], _, _, _, rfl, .nil, e⟩
    | cons q r ih =>
      intro x
      cases x with
      | cons e y =>
        obtain ⟨us, t, tf, tp, rfl, a, b⟩ := ih _ y
        exact ⟨_ :: us, t, tf, tp, rfl, .cons e a, b⟩
  obtain ⟨us, t, tf, tp, e, a, b⟩ := aux _ _ x
  refine ⟨us.toArray, t, tf, tp, ?_, by simpa using a, b⟩
  apply Array.ext'
  simpa using e
theorem truthy_acc {w : World} {A : Around} {E : Value → Shared → Prop} {s : Shared} {K : Frag} {x d f : Addr} {its : Array Value} {n : Nat} {od : Obj} {Q : Bool → Shared → Prop} (X : K.In s.heap) (hx : s.heap.get? x = some (accObj d its n)) (hd : s.heap.get? d = some od) (hb : findIn K (.ref 195) "__bool__" = some none) (hl : findIn K (.ref 195) "__len__" = some (some (.ref f))) (hf : isFn K (.ref f) = true)
    (h : wpAny (model PR w) A.in1 (call (.ref f) [.ref x]) (W.LenBack (fun v s' => match v with | .int n _ => Q (n != 0) s' | _ => False)) E s) : wpAny (model PR w) A (truthy (.ref x)) Q E s := by
  have I : InstAt s.heap x (accObj d its n) 195 (some od) := ⟨hx, rfl, rfl, hd⟩
  unfold truthy
  refine wpAny_bind (m := callSpecial? (.ref x) (Str.ofString "__bool__")) (wpAny_bind (wpAny_bind ((typeOf_acc hx).here ((looks_findIn X hb).here (wpAny_pure ?_)))))
  refine wpAny_bind (wpAny_bind ((typeOf_acc hx).here ((looks_findIn X hl).here ?_)))
  rw [if_neg (by simp)]
  refine wpAny_bind (wpAny_runValue (codeAny_builtin entry_len ?_))
  rw [Around.under_plainId plain_len _]
  unfold Builtin.«len»
  refine wpAny_bind (m := oneArg "len" _) (wpAny_pure ?_)
  refine wpAny_bind (m := callSpecial? (.ref x) (Str.ofString "__len__")) (special_fn X I hl (beq_iff_eq.mp hf) (wpAny_mono h (fun r s' hr => ?_) fun _ _ y => y))
  cases r <;> first | exact hr.elim | skip
  rename_i n u
  obtain ⟨⟨h0, h1⟩, hq⟩ := hr
  refine wpAny_bind (wpAny_holding (wpAny_pure ?_))
  refine wpAny_bind (wpAny_letGo ?_)
  show wpAny _ _ (if n < 0 then _ else _) _ _ _
  rw [if_neg (by omega)]
  show wpAny _ _ (if n ≥ 2 ^ 63 then _ else _) _ _ _
  rw [if_neg (by omega)]
  exact wpAny_bind (wpAny_mkInt (wpAny_pure (wpAny_pure hq)))
theorem onlyws_spec {w : World} {A : Around} {s : Shared} {g : Heap} {p : Program} {loose : List Str} {mg mb : Str → Option Value} {acc d : Addr} {its : Array Value} {n : Nat} {Q E : Value → Shared → Prop} {ps : List (Str × Str)} {hs : Int} {tn ti : Tok} {ne : Nat}
    (G : Gd w p loose mg mb g) (st : g.StaysIn s.heap) (ha : s.heap.get? acc = some (accObj d its n)) (hga : g.get? acc = none) (hdd : s.heap.get? d = some (accDict hs tn ti ne)) (hgd : g.get? d = none) (hp : Parts s.heap its.toList ps) (hT : TabI 157 s.heap) (hgT : g.get? 157 = none) (hT2 : TabI 164 s.heap) (hgT2 : g.get? 164 = none)
    (hh : A.handled = none) (hu : A.units + 100 < cLine) (hr : A.depth + 4 < recursionLimit) (hB : AllBare s.gens) (hz : ps.length ≤ 1000) (hz2 : ∀ q ∈ ps, q.1.length ≤ 1000 ∧ q.2.length ≤ 1000) (hpos : 0 < lens ps) (hspc : Txt.isspace (catParts ps) = false)
    (h : ∀ h' gs tk, TabI 157 h' → TabI 164 h' → AllBare gs → (∀ b o, b ≠ 157 → b ≠ 164 → s.heap.get? b = some o → h'.get? b = some o) → Q (.bool false) ⟨h', gs, s.drawn, tk, s.os⟩) :
    wpAny (model PR w) A (call (.ref 184) [.ref acc]) Q E s := by
  obtain ⟨tb1, hP1, htr1⟩ := hT
  obtain ⟨tb2, hP2, htr2⟩ := hT2
  have n15 : Apart acc d := apart_of_obj ha hdd (by simp)
  have n16 : Apart acc 157 := apart_of_obj ha hP1 (by simp)
  have n17 : Apart acc 164 := apart_of_obj ha hP2 (by simp)
  have n18 : Apart d 157 := apart_of_obj hdd hP1 (by simp)
  have n19 : Apart d 164 := apart_of_obj hdd hP2 (by simp)
  have n20 : Apart 157 164 := by unfold Apart; decide
  refine wpAny_call ?_
  refine' enter (binds := [("self", .ref acc)]) (led := [(acc, accObj d its n), (d, accDict hs tn ti ne), (157, tabObj tb1), (164, tabObj tb2)]) G.K G.T st ?hl ?ho ?hcd (om_0 hr) ?hb ?hloc ?_ ?hcell ?hco ?hgen ?hk
  case hl => simp only [List.forall_mem_cons, ha, hga, hdd, hgd, hP1, hgT, hP2, hgT2, and_self, List.not_mem_nil, false_imp_iff, implies_true]
  case ho => k_is
  case hcd => k_is
  case hb => exact BindsTo.of_eq rfl
  case hloc => rfl
  case hcell => decide
  case hco => rfl
  case hgen => rfl
  case hk => rfl
  intro g' h₁ kp st' kp₁ F' N' X' T'
  have G' : Gd w p loose mg mb g' := ⟨X', T', G.B.keeps st'⟩
  have hpg : Parts g' its.toList ps := hp.keeps fun b o e ⟨a, b', q⟩ => kp _ _ e (by
    subst q; simp only [List.map_cons, List.map_nil, List.mem_cons, List.not_mem_nil, or_false]; rintro (rfl | rfl | rfl | rfl) <;> simp_all)
  have hlb := lens_le _ hz2
  k_extra "go"
  refine truthy_acc (X'.keeps F'.keep) (N' _ (List.Mem.head _)).1 (N' _ (List.Mem.tail _ (List.Mem.head _))).1 (by k_is) (by k_is) (by k_is) ?_
  k_extra "go"
  refine ⟨⟨by omega, by omega⟩, ?_⟩
  dsimp only
  rw [show ((lens ps : Int) != 0) = true from by simp; omega]
  k_extra "go"
  unfold StrBack
  dsimp only
  k_extra "go"
  rename Fr _ _ _ _ => F
  rename News _ _ _ _ => N
  rw [hspc]
  refine h _ _ _ ⟨_, (N (157, _) (by k_mem)).1, by assumption⟩ ⟨_, (N (164, _) (by k_mem)).1, by assumption⟩ (by assumption) fun b o h1 h2 e => ?_
  by_cases q1 : b = acc
  · subst q1; rw [ha] at e; cases e; exact (N _ (List.Mem.head _)).1
  by_cases q2 : b = d
  · subst q2; rw [hdd] at e; cases e; exact (N _ (List.Mem.tail _ (List.Mem.head _))).1
  · exact F.keep _ _ (kp _ _ e (by simp [q1, q2, h1, h2]))
theorem step2 {g h h' : Heap} {L a b : Addr} {m : Str → Option Value} {news news₁ news' : List (Addr × Obj)} {o o' x x' : Obj} (F : Fr g L h m) (N : News g L h news) (U : Upd a o o' news news₁) (V : Upd b x x' news₁ news') (hb : (b, x) ∈ news) (ha : h'.get? a = some o') (hx : h'.get? b = some x') (k : ∀ c y, c ≠ a → c ≠ b → h.get? c = some y → h'.get? c = some y) : Fr g L h' m ∧ News g L h' news' := by
  obtain ⟨pre, post, e1, e2, p1, p2⟩ := U.split
  have hA : (a, o) ∈ news := by rw [e1]; exact List.mem_append.mpr (.inr (.head _))
  have F' := fr_after (l := [a, b]) F (fun c y hc e => k c y (fun q => hc (q ▸ List.Mem.head _)) (fun q => hc (q ▸ List.Mem.tail _ (List.Mem.head _))) e) (fun c hc => by
    rcases List.mem_cons.mp hc with rfl | hc
    · exact ⟨(N _ hA).2.2, (N _ hA).2.1⟩
    · cases List.mem_singleton.mp hc; exact ⟨(N _ hb).2.2, (N _ hb).2.1⟩)
  refine ⟨F', ?_⟩
  obtain ⟨pre', post', e3, e4, p3, p4⟩ := V.split
  intro q hq
  have hmem : q = (b, x') ∨ (q ∈ news₁ ∧ q.1 ≠ b) := by
    rw [e4] at hq
    rcases List.mem_append.mp hq with hq | hq
    · exact .inr ⟨by rw [e3]; exact List.mem_append_left _ hq, p3 q hq⟩
    · rcases List.mem_cons.mp hq with rfl | hq
      · exact .inl rfl
      · exact .inr ⟨by rw [e3]; exact List.mem_append_right _ (List.mem_cons_of_mem _ hq), p4 q hq⟩
  rcases hmem with rfl | ⟨hq1, hqd⟩
  · exact ⟨hx, (N _ hb).2⟩
  · rw [e2] at hq1
    rcases List.mem_append.mp hq1 with hq1 | hq1
    · have := N q (by rw [e1]; exact List.mem_append_left _ hq1)
      exact ⟨k _ _ (p1 q hq1) hqd this.1, this.2⟩
    · rcases List.mem_cons.mp hq1 with rfl | hq1
      · exact ⟨ha, (N _ hA).2⟩
      · have := N q (by rw [e1]; exact List.mem_append_right _ (List.mem_cons_of_mem _ hq1))
        exact ⟨k _ _ (p2 q hq1) hqd this.1, this.2⟩
section
variable {w : World} {A : Around} {E : Value → Shared → Prop} {s : Shared} {g h h' : Heap} {L acc d : Addr} {m : Str → Option Value} {news news' : List (Addr × Obj)} {its : Array Value} {n : Nat} {hs : Int} {tn ti : Tok} {ne : Nat}
  {p : Program} {loose : List Str} {mg mb : Str → Option Value}
theorem onlyws_F {tb tb2 : Array Value} {ps : List (Str × Str)} {news₁ : Array Value → List (Addr × Obj)} {newsF : Array Value → Array Value → List (Addr × Obj)} {Q : Value → Shared → Prop} (F : Fr g L s.heap m) (G : Gd w p loose mg mb g) (N : News g L s.heap news) (hA : (acc, accObj d its n) ∈ news) (hD : (d, accDict hs tn ti ne) ∈ news)
    (hP1 : (157, tabObj tb) ∈ news) (hP2 : (164, tabObj tb2) ∈ news) (htr : TriplesOk tb.toList) (htr2 : TriplesOk tb2.toList) (U : ∀ tb', Upd 157 (tabObj tb) (tabObj tb') news (news₁ tb')) (V : ∀ tb' tb'', Upd 164 (tabObj tb2) (tabObj tb'') (news₁ tb') (newsF tb' tb''))
    (hp : Parts s.heap its.toList ps) (hh : A.handled = none) (hu : A.units + 100 < cLine) (hr : A.depth + 4 < recursionLimit) (hB : AllBare s.gens) (hz : ps.length ≤ 1000) (hz2 : ∀ q ∈ ps, q.1.length ≤ 1000 ∧ q.2.length ≤ 1000) (hpos : 0 < lens ps) (hspc : Txt.isspace (catParts ps) = false)
    (h : ∀ h' gs tb' tb'' tk, TriplesOk tb'.toList → TriplesOk tb''.toList → AllBare gs → Fr g L h' m → News g L h' (newsF tb' tb'') → Q (.bool false) ⟨h', gs, s.drawn, tk, s.os⟩) :
    wpAny (model PR w) A (call (.ref 184) [.ref acc]) Q E s := by
  refine onlyws_spec G F.keep (N _ hA).1 (N _ hA).2.2 (N _ hD).1 (N _ hD).2.2 hp ⟨tb, (N _ hP1).1, htr⟩ (N _ hP1).2.2 ⟨tb2, (N _ hP2).1, htr2⟩ (N _ hP2).2.2 hh hu hr hB hz hz2 hpos hspc fun h' gs tk hT' hT'' hB' kk => ?_
  obtain ⟨tb', hP', htr'⟩ := hT'
  obtain ⟨tb'', hP'', htr''⟩ := hT''
  obtain ⟨F', N'⟩ := step2 F N (U tb') (V tb' tb'') hP2 hP' hP'' kk
  exact h h' gs tb' tb'' tk htr' htr'' hB' F' N'
theorem reset0_F {news₁ : Nat → List (Addr × Obj)} {newsF : Nat → Int → Tok → Tok → Nat → List (Addr × Obj)} {Q : Value → Shared → Prop} (F : Fr g L s.heap m) (X : (hd.heap_1 w.params).In g) (T : TopRead p loose mg mb g) (N : News g L s.heap news)
    (U : ∀ k, Upd acc (accObj d its n) (accObj d #[] k) news (news₁ k)) (U2 : ∀ k hs' tn' ti' ne', Upd d (accDict hs tn ti ne) (accDict hs' tn' ti' ne') (news₁ k) (newsF k hs' tn' ti' ne')) (hA : (acc, accObj d its n) ∈ news) (hD : (d, accDict hs tn ti ne) ∈ news) (hr : A.depth + 1 < recursionLimit) (hz : its.size ≤ 1000)
    (h : ∀ h' k hs' tn' ti' ne' tk, Fr g L h' m → News g L h' (newsF k hs' tn' ti' ne') → Q .none { s with heap := h', toks := tk }) :
    wpAny (model PR w) A (call (.ref 177) [.ref acc]) Q E s := by
  refine reset0_spec X T F.keep (N _ hA).1 (N _ hA).2.2 (N _ hD).1 (N _ hD).2.2 hr hz fun h' k hs' tn' ti' ne' tk hacc hdd kk => ?_
  obtain ⟨F', N'⟩ := step2 F N (U k) (U2 k hs' tn' ti' ne') hD hacc hdd kk
  exact h h' k hs' tn' ti' ne' tk F' N'
end

theorem ne_pair {prog : Program} {w : World} {A : Around} {E : Value → Shared → Prop} {s : Shared} {t u : Addr} {a b c d : Str} {ta tb tc td : Tok} {Q : Value → Shared → Prop} (ht : s.heap.get? t = some (tupObj [.str a ta, .str b tb])) (hu : s.heap.get? u = some (tupObj [.str c tc, .str d td]))
    (hne : b ≠ d) (hl : A.units < cLine) (h : Q (.bool true) s) : wpAny (model prog w) A (compareOp .NotEq (.ref t) (.ref u)) Q E s := by
  refine SeqAt.RcNeAt.tuples (e := fun j => if j = 0 then a == c else b == d) ⟨_, ht, rfl, _, rfl⟩ ⟨_, hu, rfl, _, rfl⟩ hl (fun j h1 h2 => ?_) prog w E Q ?_
  · have : j = 0 ∨ j = 1 := by simp at h1; omega
    rcases this with rfl | rfl
    · exact SeqAt.EqAt.str_str _ _ _ _
    · exact SeqAt.EqAt.str_str _ _ _ _
  · have e : (b == d) = false := by simp [hne]
    simpa [List.range, List.range.loop, e] using h
theorem units_d {A : Around} {env : Env} (h : A.units + 3 + 100 < cLine) : (A.deeper env).units + 100 < cLine := h
end
example : True := by
  k_with "call ref" =>
    (k_here; (with_reducible show wpAny _ _ (call (Value.ref 177) _) _ _ _); k_dflt
      (refine' reset0_F ?qFz ?qXz ?qTz ?qNz ?qUz ?qU2z ?qAz ?qDz ?qrz ?qzz ?_; (case qFz => k_asm); (case qXz => k_asm); (case qTz => k_asm); (case qNz => k_asm); (case qAz => k_mem); (case qUz => intro zk; k_upd); (case qU2z => intro zk zhs1 ztn1 zti1 zne1; k_upd); (case qDz => k_mem); (case qrz => k_extra "my_room"); (case qzz => first | assumption | exact Nat.le_trans (by assumption) (by decide) | (simp; omega) | omega); k_whole); intro _ _ _ _ _ _ _ _ _; (try k_sweep))
  k_with "call ref" =>
    (k_here; (with_reducible show wpAny _ _ (call (Value.ref 184) _) _ _ _); k_dflt
      (refine' onlyws_F ?qFz ?qGz ?qNz ?qAz ?qDz ?qP1z ?qP2z ?qtrz ?qtr2z ?qUz ?qVz ?qhpz ?qhhz ?quz ?qrz ?qBz ?qzz ?qz2z ?qz3z ?qz4z ?_; (case qFz => k_asm); (case qGz => assumption); (case qNz => k_asm); (case qAz => k_mem); (case qDz => k_mem); (case qP1z => k_mem); (case qP2z => k_mem); (case qUz => intro ztb; k_upd); (case qVz => intro _ ztb1; k_upd); (case qtrz => assumption); (case qtr2z => assumption); (case qhpz => k_extra "k_parts"); (case qhhz => first | assumption | exact hh); (case quz => first | (refine units_d ?_; first | exact om_u (by assumption) (by decide) | omega) | omega); (case qrz => k_extra "my_room"); (case qBz => assumption); (case qzz => first | assumption | exact Nat.le_trans (by assumption) (by decide) | (simp; omega) | omega); (case qz2z => assumption); (case qz3z => assumption); (case qz4z => assumption); k_whole); intro _ _ _ _ _ _ _ _ _ _; (try k_sweep))
  trivial
section
theorem star_tup {prog : Program} {w : World} {A : Around} {E : Value → Shared → Prop} {s : Shared} {h₀ : Heap} {L a : Addr} {m : Str → Option Value} {news : List (Addr × Obj)} {ws : List Value} {Q : List Value → Shared → Prop} (F : Fr h₀ L s.heap m) (N : News h₀ L s.heap news) (D : s.heap.get? a = some (tupObj ws))
    (hz : ws.length ≤ 1000) (h : ∀ h', Fr h₀ L h' m → News h₀ L h' news → Q ws { s with heap := h' }) : StarOf (model prog w) A E (.ref a) Q s := by
  have hT' : s.TypeIs (.ref a) "tuple" := ⟨_, D, rfl⟩
  have z : wpAny (model prog w) A (collect (.ref a)) Q E s := by
    refine wpAny_collect_seq a (.inr rfl) D rfl rfl (fun h' hk => ?_) (by rw [sizeLine_eq]; simp; omega)
    have := h h' (fr_all F hk) (news_all N hk)
    simpa using this
  unfold StarOf notIterableAtAll
  exact wpAny_bind (wpAny_specialOf hT' PySem.F.slot_tuple_iter.lookup (wpAny_pure ⟨rfl, z⟩))
section
variable {prog : Program} {w : World} {A : Around} {E : Value → Shared → Prop} {s : Shared} {K : Frag} {x C L : Addr} {name : Str} {ox : Obj}
theorem get_bound {f : Addr} {od : Option Obj} {expr : Bool} {Q : Value → Shared → Prop} (X : K.In s.heap) (I : InstAt s.heap x ox C od)
    (hga : findIn K (.ref C) "__getattribute__" = some (some (.builtin "list.__getattribute__"))) (hk : findIn K (.ref C) "__getattr__" = some none) (hl : subIn K (.ref C) (.type "list") = some true)
    (hf : findObj K C od name = some (.bind (.builtin "function.__get__") (.ref f))) (hp : typeIn K (.ref f) = some (.type "function"))
    (h : ∀ q h', q = s.heap.objs.size → h' = s.heap.push (methodObj (.ref f) (.ref x)) → Q (.ref q) { s with heap := h', toks := s.toks + 1 }) : wpAny (model prog w) A (getAttr (.ref x) name expr) Q E s := by
  obtain ⟨hh, g, dr, t, os⟩ := s
  have hT : Looks (model prog w) hh (typeOf (.ref x)) (.ref C) := I.type
  have hi : Looks (model prog w) hh (isInstance (.ref x) (.type "list")) true := hT.andThen (looks_subIn X hl)
  have L1 := looks_find (M := model prog w) X I hf
  have L2 := looks_findIn (M := model prog w) X hk
  unfold getAttr getAttrBy
  refine wpAny_bind (wpAny_mkText (wpAny_holding (wpAny_bind (hT.at (wpAny_bind ((looks_findIn X hga).at ?_))))))
  show wpAny _ _ (getAttrByItsOwn (.ref x) (.str name t) (.ref C) (.builtin "list.__getattribute__") true expr) _ _ _
  unfold getAttrByItsOwn
  refine wpAny_bind (m := hookBefore (.ref C)) ?_
  show wpAny _ _ (typeLookup (.ref C) "__getattr__") _ _ _
  refine (looks_findIn X hk).at ?_
  refine wpAny_bind (wpAny_attempt (wpAny_holding ?_))
  have e : callGetattribute (.ref x) (.str name t) (.builtin "list.__getattribute__") expr = boundAndCalled (.builtin "list.__getattribute__") (.ref x) (.str name t) := by
    unfold callGetattribute
    rw [if_neg (by cases expr <;> simp [onTheHeap])]
  rw [e]
  unfold boundAndCalled
  refine wpAny_bind (wpAny_of_eq (slot_list_ga.bind _) ?_)
  refine wpAny_mono (Q := fun u s' => u = .ref hh.objs.size ∧ s' = ⟨hh.push (methodObj (.ref f) (.ref x)), g, dr, t + 1, os⟩) (E := fun _ _ => False) ?_ (fun u s' hu => ?_) fun _ _ z => z.elim
  · refine call_sub (id := "list.__getattribute__") (owner := "list") (n := "__getattribute__") (.inr (by decide +kernel)) (by decide +kernel) (by decide +kernel) entry_list_ga (by unfold argsOk; kernel_rfl) hi ?_
    unfold Builtin.«object.__getattribute__»
    refine wpAny_bind (wpAny_pure ?_)
    refine wpAny_bind (wpAny_pure (wpAny_bind (hT.at (wpAny_bind (L1.at ?_)))))
    show wpAny _ _ (holding [.ref f] (call (.builtin "function.__get__") [.ref f, .ref x, .ref C]) >>= ret) _ _ _
    exact wpAny_bind (wpAny_holding (wpAny_call (fn_get X hp (wpAny_pure ⟨_, rfl, rfl, rfl⟩))))
  · obtain ⟨rfl, rfl⟩ := hu
    show wpAny _ _ (handedOut _) _ _ _
    exact wpAny_bind (m := pure _) (wpAny_pure (wpAny_pure (h _ _ rfl rfl)))
theorem star_method {M : Model} {env : Env} {o e : Expr} {apos pos p : Pos} {Q : Value → Shared → Prop}
    (h : wpAny M A (eval o env) (fun ov s₁ => wpAny M A (getAttr ov name true) (fun f s₂ => wpAny M A (callWith pos f [] (backTo pos (starEach [.Starred e p] env)) []) Q E s₂) E s₁) E s)
    (he : eval (.Call (.Attribute o name apos) [.Starred e p] [] pos) env = (do
      let ov ← eval o env
      standAt apos.atName
      let (f, first) ← holding [ov] (do let f ← getAttr ov name true; pure (f, []))
      callWith pos f first (backTo pos (starEach [.Starred e p] env)) []) := by rfl) : wpAny M A (eval (.Call (.Attribute o name apos) [.Starred e p] [] pos) env) Q E s := by
  rw [he]
  exact wpAny_bind (wpAny_mono h (fun ov s₁ h₁ => wpAny_bind (wpAny_standAt (wpAny_bind (wpAny_holding (wpAny_bind (wpAny_mono h₁ (fun f s₂ h₂ => wpAny_pure h₂) fun _ _ x => x)))))) fun _ _ x => x)
end
theorem keeps_method {M : Model} {K : Frag} {h : Heap} {q f : Addr} {x : Value} {oc : Value} {od : Option Addr} {fd : FuncData} {sl : Array (Option Value)} (X : K.In h) (hq : h.get? q = some (methodObj (.ref f) x)) (hf : K.lookup f = some ⟨oc, od, .func fd, sl⟩) :
    ∃ k, (k = Keeper.frame ∨ k = Keeper.machine ∨ k = Keeper.boundFrame) ∧ Looks M h (keeperOf (.ref q)) k :=
  ⟨.boundFrame, .inr (.inr rfl), (Looks.ld (part := none) hq).andThen ((Looks.ld (part := none) (X _ _ hf)).andThen .now)⟩
theorem findObj_bind {K : Frag} {C : Addr} {cd : ClassData} {od : Obj} {name : Str} {a g : Value} (hc : clsIn K C = some cd) (hd : cd.hasDict = true) (hcp : copiedNames.contains name = false) (ha : findIn K (.ref C) name = some (some a)) (hg : specialIn K a "__get__" = some (some g)) (ht : takesIn K a = some false) (hl : lookIn name od = some none) :
    findObj K C (some od) name = some (.bind g a) := by
  unfold findObj
  have ho : W.ownOf cd (some od) name = some none := by unfold W.ownOf; rw [if_pos hd]; exact hl
  rw [hc, Option.bind_some, ha, Option.bind_some]
  simp only [hg, ht, Option.bind_some, ho, hcp, Bool.false_and, Bool.false_eq_true, if_false]
theorem push_codeF {w : World} {A : Around} {E : Value → Shared → Prop} {s : Shared} {g : Heap} {L acc d : Addr} {m : Str → Option Value} {news : List (Addr × Obj)} {its : Array Value} {n : Nat} {hs : Int} {tn ti : Tok} {ne : Nat} {p : Program} {loose : List Str} {mg mb : Str → Option Value}
    {a b : Value} {newsF : Addr → List (Addr × Obj)} {Q : Value → Shared → Prop} (F : Fr g L s.heap m) (X : (hd.heap_1 w.params).In g) (T : TopRead p loose mg mb g) (N : News g L s.heap news) (hD : (d, accDict hs tn ti ne) ∈ news)
    (U : ∀ t, Upd acc (accObj d its n) (accObj d (its.push (.ref t)) (n + 1)) news (newsF t)) (hr : A.depth < recursionLimit) (hz : its.size ≤ 1000)
    (h : ∀ t h' tk, Fr g L h' m → News g L h' ((t, tupObj [a, b]) :: newsF t) → (∀ p ∈ news, @Ne Nat p.1 t) → Q .none { s with heap := h', toks := tk }) :
    codeAny (model PR w) A (.call (.ref 139) ⟨[.ref acc, a, b], []⟩) (fun r s' => match r with | .ok (.ret v) => Q v s' | .ok _ => False | .error e => E e s') s := by
  have hA : (acc, accObj d its n) ∈ news := by
    obtain ⟨pre, post, e, _⟩ := (U 0).split
    rw [e]; exact List.mem_append.mpr (.inr (.head _))
  refine push_code X T F.keep (N _ hA).1 (N _ hA).2.2 (N _ hD).1 (N _ hD).2.2 hr hz fun t h' tk ht htup hacc k => ?_
  obtain ⟨F', N'⟩ := step1 F N (U t) hacc k
  exact h t h' tk F' (cons1 F N ht F' N' htup) (apart N ht)
theorem Str.length_pos {x : Str} (h : x ≠ "") : 0 < x.length := by
  rcases Nat.eq_zero_or_pos x.length with e | e
  · exfalso
    apply h
    obtain ⟨c⟩ := x
    have : c = #[] := Array.eq_empty_of_size_eq_zero e
    subst this
    rfl
  · exact e
theorem newline_spec {w : World} {A : Around} {s : Shared} {g : Heap} {p : Program} {loose : List Str} {mg mb : Str → Option Value} {fm df ls acc d : Addr} {width : Int} {cws sp : Str} {lines : List Str} {ps₀ : List (Str × Str)} {f₀ t₀ : Str} {Q E : Value → Shared → Prop}
    (G : Gd w p loose mg mb g) (st : g.StaysIn s.heap) (Z : Fmt s.heap fm df ls acc d width cws sp lines (ps₀ ++ [(f₀, t₀)])) (hg : ∀ a ∈ [fm, df, ls, acc, d, 157, 164], g.get? a = none) (hT : TabI 157 s.heap) (hT2 : TabI 164 s.heap)
    (hh : A.handled = none) (hu : A.units + 200 < cLine) (hr : A.depth + 6 < recursionLimit) (hB : AllBare s.gens) (hz : ps₀.length ≤ 100) (hz2 : ∀ q ∈ ps₀ ++ [(f₀, t₀)], q.1.length ≤ 1000 ∧ q.2.length ≤ 1000) (hz4 : lines.length ≤ 1000) (ht₀ : t₀ ≠ "") (hsc : Txt.isspace (catParts (ps₀ ++ [(f₀, t₀)])) = false)
    (h : ∀ h' gs tk, Fmt h' fm df ls acc d width cws sp (lines ++ [catParts (ps₀ ++ [(f₀, t₀)])]) [] → TabI 157 h' → TabI 164 h' → AllBare gs → (∀ b o, b ∉ [ls, acc, d, 157, 164] → s.heap.get? b = some o → h'.get? b = some o) → Q .none ⟨h', gs, s.drawn, tk, s.os⟩) :
    wpAny (model PR w) A (call (.ref 73) [.ref fm]) Q E s := by
  obtain ⟨tb1, hP1, htr1⟩ := hT
  obtain ⟨tb2, hP2, htr2⟩ := hT2
  obtain ⟨hne, hfm, ⟨f, nf, hdf⟩, ⟨vs, nl, hls, hvs⟩, ⟨its₁, n, hacc, hps₁⟩, ⟨hs, tn, ti, ne, hdd⟩⟩ := Z
  have n1 : Apart fm df := apart_of_obj hfm hdf (by simp)
  have n2 : Apart fm ls := apart_of_obj hfm hls (by simp)
  have n3 : Apart fm acc := apart_of_obj hfm hacc (by simp)
  have n4 : Apart fm d := apart_of_obj hfm hdd (by simp)
  have n5 : Apart fm 157 := apart_of_obj hfm hP1 (by simp)
  have n6 : Apart fm 164 := apart_of_obj hfm hP2 (by simp)
  have n7 : Apart df ls := apart_of_obj hdf hls (by simp)
  have n8 : Apart df acc := apart_of_obj hdf hacc (by simp)
  have n9 : Apart df 157 := apart_of_obj hdf hP1 (by simp)
  have n10 : Apart df 164 := apart_of_obj hdf hP2 (by simp)
  have n11 : Apart ls acc := apart_of_obj hls hacc (by simp)
  have n12 : Apart ls d := apart_of_obj hls hdd (by simp)
  have n13 : Apart ls 157 := apart_of_obj hls hP1 (by simp)
  have n14 : Apart ls 164 := apart_of_obj hls hP2 (by simp)
  have n15 : Apart acc d := apart_of_obj hacc hdd (by simp)
  have n16 : Apart acc 157 := apart_of_obj hacc hP1 (by simp)
  have n17 : Apart acc 164 := apart_of_obj hacc hP2 (by simp)
  have n18 : Apart d 157 := apart_of_obj hdd hP1 (by simp)
  have n19 : Apart d 164 := apart_of_obj hdd hP2 (by simp)
  have n20 : Apart 157 164 := by unfold Apart; decide
  have n21 : Apart d df := hne
  obtain ⟨its, t, tf, tt, rfl, hps, htup⟩ : ∃ (its : Array Value) (t : Addr) (tf tt : Tok), its₁ = its.push (.ref t) ∧ Parts s.heap its.toList ps₀ ∧ s.heap.get? t = some (tupObj [.str f₀ tf, .str t₀ tt]) := hps₁.unsnoc
  have hsz : its.size = ps₀.length := by have := hps.length; simpa using this
  refine wpAny_call ?_
  refine' enter (binds := [("self", .ref fm)]) (led := [(fm, fmtObj df), (df, fmtDict f width cws sp ls acc nf), (ls, lstObj vs nl), (acc, accObj d (its.push (.ref t)) n), (d, accDict hs tn ti ne), (157, tabObj tb1), (164, tabObj tb2)]) G.K G.T st ?hl ?ho ?hcd (om_0 hr) ?hb ?hloc ?_ ?hcell ?hco ?hgen ?hk
  case hl => simp only [List.forall_mem_cons, List.mem_cons, forall_eq_or_imp] at hg ⊢; simp_all
  case ho => k_is
  case hcd => k_is
  case hb => exact BindsTo.of_eq rfl
  case hloc => rfl
  case hcell => decide
  case hco => rfl
  case hgen => rfl
  case hk => rfl
  intro g' h₁ kp st' kp₁ F' N' X' T'
  have G' : Gd w p loose mg mb g' := ⟨X', T', G.B.keeps st'⟩
  have hpg : Parts g' its.toList ps₀ := hps.keeps fun b o e ⟨a, b', q⟩ => kp _ _ e (by
    subst q; simp only [List.map_cons, List.map_nil, List.mem_cons, List.not_mem_nil, or_false]; rintro (rfl | rfl | rfl | rfl | rfl | rfl | rfl) <;> simp_all)
  have htg : g'.get? t = some (tupObj [.str f₀ tf, .str t₀ tt]) := kp _ _ htup (by
    simp only [List.map_cons, List.map_nil, List.mem_cons, List.not_mem_nil, or_false]; rintro (rfl | rfl | rfl | rfl | rfl | rfl | rfl) <;> simp_all)
  have hframe : ∀ h' m led', Fr g' s.heap.objs.size h' m → News g' s.heap.objs.size h' led' → (fm, fmtObj df) ∈ led' → (df, fmtDict f width cws sp ls acc nf) ∈ led' → ∀ b o, b ∉ [ls, acc, d, 157, 164] → s.heap.get? b = some o → h'.get? b = some o := fun h' m led' F N q1 q2 b o hb e => by
    by_cases e1 : b = fm
    · subst e1; rw [hfm] at e; cases e; exact (N _ q1).1
    by_cases e2 : b = df
    · subst e2; rw [hdf] at e; cases e; exact (N _ q2).1
    · exact F.keep _ _ (kp _ _ e (by simp only [List.map_cons, List.map_nil, List.mem_cons, List.not_mem_nil, or_false, not_or] at hb ⊢; exact ⟨e1, e2, hb⟩))
  have hlb := lens_le _ hz2
  rw [List.length_append, List.length_singleton] at hlb
  have hpos : 0 < lens (ps₀ ++ [(f₀, t₀)]) := by
    have : 0 < t₀.length := Str.length_pos ht₀
    simp only [lens, List.map_append, List.sum_append, List.map_cons, List.map_nil, List.sum_cons, List.sum_nil]
    omega
  k_extra "go"
  rename Fr _ _ _ _ => F
  rename News _ _ _ _ => N
  refine ne_pair (F.keep _ _ htg) (N _ (List.Mem.head _)).1 ht₀ (show A.units + 3 < cLine by omega) ?_
  iterate 5 walk1
  refine star_method ?_
  k_extra "go"
  rename Fr _ _ _ _ => F
  rename News _ _ _ _ => N
  refine get_bound (f := 139) (X'.keeps F.keep) (instL N (by k_mem) (by k_mem)) (by k_is) (by k_is) (by k_is) (findObj_bind (by k_is) rfl (by decide +kernel) (by k_is) (by k_is) (by k_is) (by rw [lookIn_dict]; rfl)) (by k_is) fun q h5 hq he => ?_
  have F5 := F.push (methodObj (.ref 139) (.ref acc))
  have N5 := News.push F N (methodObj (.ref 139) (.ref acc))
  have hqq := (N5 _ (List.Mem.head _)).1
  have lt5 := fun (p : Addr × Obj) hp => (show @Ne Nat p.1 q from by rw [hq]; exact Nat.ne_of_lt (Heap.lt_size (N p hp).1))
  dsimp only at hq he
  ((replace lt5 := allNe_of lt5); (simp only [AllNe, and_true] at lt5); (repeat ((have _ := And.left lt5); (replace lt5 := And.right lt5))))
  rw [← he] at F5 N5 hqq
  rw [← hq] at N5 hqq
  clear F N
  refine ks_call (P := fun h => h.get? q = some (methodObj (.ref 139) (.ref acc)) ∧ g'.StaysIn h) rfl (fun h hP => keeps_method (X'.keeps hP.2) hP.1 (by k_is)) (ks_lone ?_)
  k_extra "go"
  refine star_tup F5 N5 (F5.keep _ _ htg) (by simp) fun h6 F6 N6 => ?_
  have hq6 := (N6 _ (List.Mem.head _)).1
  refine ⟨⟨hq6, F6.keep⟩, wpAny_call (ks_codeAny_call_bound hq6 ?_)⟩
  refine push_codeF F6 X' T' N6 (by k_mem) (fun t => by k_upd) (show A.depth + 1 < recursionLimit by omega) (by omega) fun t' h7 tk7 F7 N7 lt7 => ?_
  ((replace lt7 := allNe_of lt7); (simp only [AllNe, and_true] at lt7); (repeat ((have _ := And.left lt7); (replace lt7 := And.right lt7))))
  clear F6 N6 F5 N5 hqq hq6
  k_extra "go"
  refine ⟨⟨by omega, by omega⟩, ?_⟩
  dsimp only
  k_extra "go"
  unfold StrBack
  dsimp only
  k_extra "go"
  rename Fr _ _ _ _ => F
  rename News _ _ _ _ => N
  refine h _ _ _ (fmt_close N (by k_mem) (by k_mem) (by k_mem) (by k_mem) (by k_mem) ?_ .nil hne) ⟨_, (N (157, _) (by k_mem)).1, by assumption⟩ ⟨_, (N (164, _) (by k_mem)).1, by assumption⟩ (by assumption) (hframe _ _ _ F N (by k_mem) (by k_mem))
  rw [Array.toList_push]; exact strsAre_append hvs (.cons _ _ .nil)
end
section
theorem str_lines_spec {w : World} {A : Around} {s : Shared} {g : Heap} {p : Program} {loose : List Str} {mg mb : Str → Option Value} {fm df ls acc d : Addr} {width : Int} {cws sp : Str} {lines : List Str} {ps₀ : List (Str × Str)} {f₀ t₀ sep : Str} {tsep : Tok} {Q E : Value → Shared → Prop}
    (G : Gd w p loose mg mb g) (st : g.StaysIn s.heap) (Z : Fmt s.heap fm df ls acc d width cws sp lines (ps₀ ++ [(f₀, t₀)])) (hg : ∀ a ∈ [fm, df, ls, acc, d, 157, 164], g.get? a = none) (hT : TabI 157 s.heap) (hT2 : TabI 164 s.heap)
    (hh : A.handled = none) (hu : A.units + 300 < cLine) (hr : A.depth + 8 < recursionLimit) (hB : AllBare s.gens) (hz : ps₀.length ≤ 100) (hz2 : ∀ q ∈ ps₀ ++ [(f₀, t₀)], q.1.length ≤ 1000 ∧ q.2.length ≤ 1000) (hz4 : lines.length ≤ 1000) (ht₀ : t₀ ≠ "") (hsc : Txt.isspace (catParts (ps₀ ++ [(f₀, t₀)])) = false)
    (hok : JoinOk sep (lines ++ [catParts (ps₀ ++ [(f₀, t₀)])]) = true)
    (h : ∀ h' gs tk tk', TabI 157 h' → TabI 164 h' → AllBare gs → (∀ b o, b ∉ [ls, acc, d, 157, 164] → s.heap.get? b = some o → h'.get? b = some o) → Q (.str (Txt.join sep (lines ++ [catParts (ps₀ ++ [(f₀, t₀)])])) tk') ⟨h', gs, s.drawn, tk, s.os⟩) :
    wpAny (model PR w) A (call (.ref 59) [.ref fm, .str sep tsep]) Q E s := by
  obtain ⟨tb1, hP1, htr1⟩ := hT
  obtain ⟨tb2, hP2, htr2⟩ := hT2
  have Z₀ := Z
  obtain ⟨hne, hfm, ⟨f, nf, hdf⟩, ⟨vs, nl, hls, hvs⟩, ⟨its, n, hacc, hps⟩, ⟨hs, tn, ti, ne, hdd⟩⟩ := Z
  have n1 : Apart fm df := apart_of_obj hfm hdf (by simp)
  have n2 : Apart fm ls := apart_of_obj hfm hls (by simp)
  have n3 : Apart fm acc := apart_of_obj hfm hacc (by simp)
  have n4 : Apart fm d := apart_of_obj hfm hdd (by simp)
  have n5 : Apart fm 157 := apart_of_obj hfm hP1 (by simp)
  have n6 : Apart fm 164 := apart_of_obj hfm hP2 (by simp)
  have n7 : Apart df ls := apart_of_obj hdf hls (by simp)
  have n8 : Apart df acc := apart_of_obj hdf hacc (by simp)
  have n9 : Apart df 157 := apart_of_obj hdf hP1 (by simp)
  have n10 : Apart df 164 := apart_of_obj hdf hP2 (by simp)
  have n11 : Apart ls acc := apart_of_obj hls hacc (by simp)
  have n12 : Apart ls d := apart_of_obj hls hdd (by simp)
  have n13 : Apart ls 157 := apart_of_obj hls hP1 (by simp)
  have n14 : Apart ls 164 := apart_of_obj hls hP2 (by simp)
  have n15 : Apart acc d := apart_of_obj hacc hdd (by simp)
  have n16 : Apart acc 157 := apart_of_obj hacc hP1 (by simp)
  have n17 : Apart acc 164 := apart_of_obj hacc hP2 (by simp)
  have n18 : Apart d 157 := apart_of_obj hdd hP1 (by simp)
  have n19 : Apart d 164 := apart_of_obj hdd hP2 (by simp)
  have n20 : Apart 157 164 := by unfold Apart; decide
  have n21 : Apart d df := hne
  refine wpAny_call ?_
  refine' enter (binds := [("self", .ref fm), ("linesep", .str sep tsep)]) (led := [(fm, fmtObj df), (df, fmtDict f width cws sp ls acc nf), (ls, lstObj vs nl), (acc, accObj d its n), (d, accDict hs tn ti ne), (157, tabObj tb1), (164, tabObj tb2)]) G.K G.T st ?hl ?ho ?hcd (om_0 hr) ?hb ?hloc ?_ ?hcell ?hco ?hgen ?hk
  case hl => simp only [List.forall_mem_cons, List.mem_cons, forall_eq_or_imp] at hg ⊢; simp_all
  case ho => k_is
  case hcd => k_is
  case hb => exact BindsTo.of_eq rfl
  case hloc => rfl
  case hcell => decide
  case hco => rfl
  case hgen => rfl
  case hk => rfl
  intro g' h₁ kp st' kp₁ F' N' X' T'
  have G' : Gd w p loose mg mb g' := ⟨X', T', G.B.keeps st'⟩
  have hpg : Parts g' its.toList (ps₀ ++ [(f₀, t₀)]) := hps.keeps fun b o e ⟨a, b', q⟩ => kp _ _ e (by
    subst q; simp only [List.map_cons, List.map_nil, List.mem_cons, List.not_mem_nil, or_false]; rintro (rfl | rfl | rfl | rfl | rfl | rfl | rfl) <;> simp_all)
  have hframe : ∀ h' m led', Fr g' s.heap.objs.size h' m → News g' s.heap.objs.size h' led' → (fm, fmtObj df) ∈ led' → (df, fmtDict f width cws sp ls acc nf) ∈ led' → ∀ b o, b ∉ [ls, acc, d, 157, 164] → s.heap.get? b = some o → h'.get? b = some o := fun h' m led' F N q1 q2 b o hb e => by
    by_cases e1 : b = fm
    · subst e1; rw [hfm] at e; cases e; exact (N _ q1).1
    by_cases e2 : b = df
    · subst e2; rw [hdf] at e; cases e; exact (N _ q2).1
    · exact F.keep _ _ (kp _ _ e (by simp only [List.map_cons, List.map_nil, List.mem_cons, List.not_mem_nil, or_false, not_or] at hb ⊢; exact ⟨e1, e2, hb⟩))
  k_extra "go"
  rename Fr _ _ _ _ => F
  rename News _ _ _ _ => N
  have hg' : ∀ a ∈ [fm, df, ls, acc, d, 157, 164], g'.get? a = none := by
    simp only [List.forall_mem_cons, List.not_mem_nil, false_imp_iff, implies_true, and_true]
    exact ⟨(N (fm, _) (by k_mem)).2.2, (N (df, _) (by k_mem)).2.2, (N (ls, _) (by k_mem)).2.2, (N (acc, _) (by k_mem)).2.2, (N (d, _) (by k_mem)).2.2, (N (157, _) (by k_mem)).2.2, (N (164, _) (by k_mem)).2.2⟩
  refine newline_spec G' F.keep (fmt_close N (by k_mem) (by k_mem) (by k_mem) (by k_mem) (by k_mem) hvs (by k_extra "k_parts") hne) hg' ⟨_, (N (157, _) (by k_mem)).1, htr1⟩ ⟨_, (N (164, _) (by k_mem)).1, htr2⟩ hh (show A.units + 3 + 200 < cLine from om_u hu (by decide)) (show A.depth + 1 + 6 < recursionLimit from om_u hr (by decide)) hB hz hz2 hz4 ht₀ hsc fun h2 gs2 tk2 Z2 hT2 hT3 hB2 k2 => ?_
  obtain ⟨-, -, -, ⟨vs2, nl2, hls2, hvs2⟩, -, -⟩ := Z2
  have hsub : ∀ a ∈ [ls, acc, d, 157, 164], g'.get? a = none ∧ @Ne Nat a s.heap.objs.size := by
    simp only [List.forall_mem_cons, List.not_mem_nil, false_imp_iff, implies_true, and_true]
    exact ⟨⟨(N (ls, _) (by k_mem)).2.2, (N (ls, _) (by k_mem)).2.1⟩, ⟨(N (acc, _) (by k_mem)).2.2, (N (acc, _) (by k_mem)).2.1⟩, ⟨(N (d, _) (by k_mem)).2.2, (N (d, _) (by k_mem)).2.1⟩, ⟨(N (157, _) (by k_mem)).2.2, (N (157, _) (by k_mem)).2.1⟩, ⟨(N (164, _) (by k_mem)).2.2, (N (164, _) (by k_mem)).2.1⟩⟩
  have F2 := fr_after F k2 hsub
  have N2 : News g' s.heap.objs.size h2 [(fm, fmtObj df), (df, fmtDict f width cws sp ls acc nf), (ls, lstObj vs2 nl2)] := by
    have b1 := N (fm, _) (by k_mem)
    have b2 := N (df, _) (by k_mem)
    have b3 := N (ls, _) (by k_mem)
    unfold Apart at *
    simp only [News, List.forall_mem_cons, List.not_mem_nil, false_imp_iff, implies_true, and_true]
    refine ⟨⟨k2 _ _ ?_ b1.1, b1.2⟩, ⟨k2 _ _ ?_ b2.1, b2.2⟩, hls2, b3.2⟩
    · simp only [List.mem_cons, List.not_mem_nil, or_false, not_or]; exact ⟨n2, n3, n4, n5, n6⟩
    · simp only [List.mem_cons, List.not_mem_nil, or_false, not_or]; exact ⟨n7, n8, Ne.symm n21, n9, n10⟩
  clear F N
  dsimp only
  k_extra "go"
  rename Fr _ _ _ _ => F
  rename News _ _ _ _ => N
  obtain ⟨lv, hlv, hlt⟩ := strsAre_values hvs2
  have hvs3 : vs2 = (strValues lv).toArray := by rw [← hlv]
  subst hvs3
  refine SC.join ⟨_, (N (ls, _) (by k_mem)).1, rfl, _, rfl⟩ hlt hok fun t' k => ?_
  exact h _ _ _ _ hT2 hT3 hB2 (hframe _ _ _ F N (by k_mem) (by k_mem))
end
section
structure MakesL (M : Model) (h : Heap) (C : Addr) : Prop where
  obj : ∃ oc od cd sl, h.get? C = some ⟨oc, od, .cls cd, sl⟩ ∧ cd.abstract = false ∧ cd.hasDel = false ∧ cd.mro.isEmpty = false
  made : Looks M h (Bind.madeBy (.ref C)) (some "list.__new__")
  base : Looks M h (Bind.staticBase (.ref C)) (.ref C)
  self : Looks M h (isSubtype (.ref C) (.ref C)) true
  top : Looks M h (isSubtype (.ref C) (.type "list")) true
  call : Looks M h (specialOf (.ref C) "__call__") (some (.builtin "type.__call__"))
  typ : Looks M h (isInstance (.ref C) (.type "type")) true
noncomputable def makesLIn (K : Frag) (C : Addr) : Bool := match K.lookup C with
  | some ⟨_, _, .cls cd, sl⟩ => !cd.abstract && !cd.hasDel && (sl.toList[4]?).join == some (.builtin "list.__new__") && !cd.mro.isEmpty && cd.mro.contains (.ref C) && cd.mro.contains (.type "list") &&
      specialIn K (.ref C) "__call__" == some (some (.builtin "type.__call__")) && instIn K (.ref C) (.type "type") == some true
  | _ => false
theorem makesL_of {K : Frag} {M : Model} {h : Heap} (X : K.In h) {C : Addr} (e : makesLIn K C = true) : MakesL M h C := by
  unfold makesLIn at e
  split at e
  · rename_i oc od cd sl ho
    simp only [Bool.and_eq_true, Bool.not_eq_true', beq_iff_eq] at e
    obtain ⟨⟨⟨⟨⟨⟨⟨e1, e2⟩, e3⟩, e4⟩, e5⟩, e6⟩, e7⟩, e8⟩ := e
    have hc : clsIn K C = some cd := by unfold clsIn; rw [ho]
    have hm : Looks M h (mroOf (.ref C)) cd.mro := (looks_clsIn X hc).andThen .now
    obtain ⟨c, l, hl⟩ : ∃ c l, cd.mro = c :: l := by cases q : cd.mro with | nil => rw [q] at e4; cases e4 | cons c l => exact ⟨c, l, rfl⟩
    have made : Looks M h (Bind.madeBy (.ref C)) (some "list.__new__") := by
      intro A Q E s k q
      unfold Bind.madeBy
      refine wpAny_bind (hm A _ E s k ?_)
      rw [hl, List.forIn_cons]
      refine wpAny_bind (wpAny_bind (wpAny_bind (wpAny_bind (wpAny_loadPart (k _ _ (X _ _ ho)) (wpAny_pure ?_)))))
      dsimp only
      rw [← Array.getElem?_toList, e3]
      exact wpAny_pure (wpAny_pure (wpAny_pure q))
    refine ⟨⟨oc, od, cd, sl, X _ _ ho, e1, e2, e4⟩, made, ?_, looks_mroIn X ?_, looks_mroIn X ?_, looks_specialIn X e7, looks_instIn X e8⟩
    · intro A Q E s k q
      unfold Bind.staticBase
      refine wpAny_bind (hm A _ E s k ?_)
      rw [hl, List.forIn_cons]
      exact wpAny_bind (wpAny_bind (wpAny_bind (made A _ E s k (wpAny_pure (wpAny_pure (wpAny_pure q))))))
    · unfold mroIn; rw [hc, Option.bind_some, if_neg (by rw [e4]; decide), e5]
    · unfold mroIn; rw [hc, Option.bind_some, if_neg (by rw [e4]; decide), e6]
  · cases e
theorem ln_kind : builtinKind "list.__new__" = some .builtinFn := by decide +kernel
theorem ln_split : splitId "list.__new__" = some ("list", "__new__") := by decide +kernel
noncomputable abbrev listInst (C dx : Addr) : Obj := ⟨.ref C, some dx, .seq #[] 0, #[]⟩
section
variable {prog : Program} {w : World} {A : Around} {K : Frag} {C : Addr} {R : Result → Shared → Prop} {h : Heap} {g : Array GenState} {d : Drawn} {t : Nat} {os : OsState}
theorem newL_K {rest : List Value} (Y : MakesL (model prog w) h C)
    (hq : R (.ok (.ret (.ref (h.objs.size + 1)))) ⟨(h.push emptyDict).push (listInst C h.objs.size), g, d, t, os⟩) :
    codeAny (model prog w) A (.call (.builtin "list.__new__") ⟨.ref C :: rest, []⟩) R ⟨h, g, d, t, os⟩ := by
  obtain ⟨⟨oc, od, cd, sl, hC, e1, e2, e4⟩, made, base, self, top, call, typ⟩ := Y
  refine codeAny_call_builtin_code (Code.quiet_builtin _ (by decide +kernel)) ?_
  simp only [checkBuiltinCall, ln_kind, ln_split]
  rw [show Manifest.signature? "list.__new__" = some ⟨.any, "list", "list", .cls, [⟨"args", .varPos, false⟩, ⟨"kwargs", .varKw, false⟩]⟩ from by kernel_rfl]
  have here1 : Looks (model prog w) h (isType (.ref C)) true := (Looks.ld (part := none) hC).andThen .now
  have args : Bind.checkArgs "list.__new__" ⟨.any, "list", "list", .cls, [⟨"args", .varPos, false⟩, ⟨"kwargs", .varKw, false⟩]⟩ ⟨.ref C :: rest, []⟩ = pure () := by kernel_rfl
  rw [if_pos (by decide)]
  refine wpAny_bind (here1.at ?_)
  rw [if_neg (by decide)]
  refine wpAny_bind (top.at ?_)
  rw [if_neg (by decide)]
  refine wpAny_bind (base.at ?_)
  refine wpAny_bind (made.at ?_)
  dsimp only
  rw [if_neg (by decide +kernel)]
  rw [args]
  refine wpAny_pure (codeAny_builtin_stack F.entry_list_new rfl fun p st => ?_)
  rw [Around.under_plainId F.plain_list_new _]
  have hown := owner_list_new
  simp only [hown]
  refine wpAny_bind (here1.at ?_)
  rw [if_neg (by decide)]
  refine wpAny_bind (top.at ?_)
  rw [if_neg (by decide)]
  refine wpAny_bind (wpAny_pure ?_)
  rw [if_neg (by show ¬ ((!true) = true); decide)]
  have fin : wpAny (model prog w) A.in1 (do
      let x ← alloc emptyDict
      ret (← newObj (.ref C) (.seq #[]) (some x))) (fun fin s' => match fin with | .done f => R (.ok f) s' | .again c' => c'.quiet = true ∧ codeAny (model prog w) A c' R s') (fun e s' => R (.error e) s') ⟨h, g, d, t, os⟩ := by
    refine wpAny_bind (wpAny_alloc (wpAny_bind ?_))
    show wpAny _ _ (newObjAsIs _ _ _) _ _ _
    unfold newObjAsIs classHasDel
    refine wpAny_bind (wpAny_alloc (wpAny_bind (wpAny_bind (wpAny_load (Heap.get?_push_of_some _ (Heap.get?_push_of_some _ hC)) (wpAny_pure ?_)))))
    rw [e2]
    refine wpAny_pure (wpAny_pure ?_)
    show R _ _
    rw [Heap.size_push]
    exact hq
  exact fin
theorem makeL_core {rest : List Value} {init : Value} (Y : MakesL (model prog w) h C) (hi : Looks (model prog w) h (typeLookup (.ref C) "__init__") (some init))
    (hb : ∀ self, Looks (model prog w) h (bindSpecial init self) (init, [self]))
    (hq : codeAny (model prog w) (A.under (.builtin "type.__call__" ⟨.ref C :: rest, []⟩)) (.call init ⟨.ref (h.objs.size + 1) :: rest, []⟩) (InitBack (h.objs.size + 1) R) ⟨(h.push emptyDict).push (listInst C h.objs.size), g, d, t, os⟩) :
    codeAny (model prog w) A (.call (.ref C) ⟨rest, []⟩) R ⟨h, g, d, t, os⟩ := by
  have Y' := Y
  obtain ⟨⟨oc, od, cd, sl, hC, e1, e2, e4⟩, made, base, self, top, call, typ⟩ := Y
  refine codeAny_of_tree ?_
  show wpAny _ _ (callAny (.ref C) _) _ _ _
  refine nd_load hC ?_
  show wpAny _ _ (callAny.viaDunder (.ref C) _) _ _ _
  unfold callAny.viaDunder
  refine wpAny_bind (call.at ?_)
  dsimp only
  rw [tc_bind]
  refine wpAny_bind (wpAny_pure (wpAny_bind (wpAny_pure ?_)))
  refine wpAny_pure (a := Fin.again (.call (.builtin "type.__call__") ⟨.ref C :: rest, []⟩)) (And.intro rfl ?_)
  with_reducible refine codeAny_call_builtin_at (Code.quiet_builtin _ (by decide +kernel)) entry_typeCall (check_slot tc_kind tc_split typ (tc_args _ _ _) ?_)
  unfold Builtin.«type.__call__»
  have hm : Looks (model prog w) h (mroOf (.ref C)) cd.mro := ((Looks.ld (part := none) hC).andThen .now).andThen .now
  repeat (first | simp only [e4, Bool.false_eq_true, if_false] | with_reducible refine wpAny_call ?_ | lk)
  refine newL_K Y' ?_
  have k : ∀ b o, h.get? b = some o → ((h.push emptyDict).push (listInst C h.objs.size)).get? b = some o := fun b o e => Heap.get?_push_of_some _ (Heap.get?_push_of_some _ e)
  have hx : ((h.push emptyDict).push (listInst C h.objs.size)).get? (h.objs.size + 1) = some (listInst C h.objs.size) := by heap_get
  have t1 : Looks (model prog w) ((h.push emptyDict).push (listInst C h.objs.size)) (typeOf (.ref (h.objs.size + 1))) (.ref C) := (Looks.ld hx).andThen .now
  have s1 := self.keeps k
  have i1 := hi.keeps k
  have b1 := (hb (.ref (h.objs.size + 1))).keeps k
  unfold isInstance callSpecial? specialOf
  repeat (first | with_reducible refine wpAny_call ?_ | lk)
  refine codeAny_mono hq fun r s' z => ?_
  rcases r with e | (v | _ | _ | _) <;> first | exact z | exact z.elim | skip
  obtain ⟨rfl, z⟩ := z
  exact wpAny_pure (wpAny_pure z)
end
theorem put_first {hsh : Int} {key v : Value} {n : Nat} : (putL "_initial_size" hsh key v [], putN "_initial_size" [] n) = ([⟨hsh, key, v⟩], n + 1) := rfl
theorem ck_init {M : Model} {h : Heap} {x : Addr} : Looks M h (checkBoundCall "list.__init__" ⟨[.ref x], []⟩) () := Looks.of_pure (by kernel_rfl)
theorem body_init {prog : Program} {w : World} {A : Around} {E : Value → Shared → Prop} {h : Heap} {g : Array GenState} {dr : Drawn} {t : Nat} {os : OsState} {x d : Addr} {n : Nat} {Q : Fin → Shared → Prop} (hx : h.get? x = some (accObj d #[] n))
    (hq : ∀ h' n', h'.get? x = some (accObj d #[] n') → (∀ b o, b ≠ x → h.get? b = some o → h'.get? b = some o) → Q (.done (.ret .none)) ⟨h', g, dr, t, os⟩) : wpAny (model prog w) A (Builtin.«list.__init__» ⟨[.ref x], []⟩) Q E ⟨h, g, dr, t, os⟩ := by
  unfold Builtin.«list.__init__»
  show wpAny _ _ (Builtin.List.listItems (.ref x) >>= _) _ _ _
  unfold Builtin.List.listItems
  refine wpAny_bind (wpAny_bind (wpAny_seqItems hx rfl (wpAny_pure ?_)))
  show wpAny _ _ (updateSeq x _ >>= _) _ _ _
  refine wpAny_bind (upd_acc hx (by simp) (by simp) fun h' n' p q => ?_)
  exact wpAny_bind (wpAny_letGo (wpAny_pure (hq h' n' p q)))
example : True := by
  k_with "setAttr ref" =>
    (k_here; k_dflt
      (refine' set_sub ?qk1z ?qk2z ?qk3z ?qk4z ?qk5z ?qk6z ?qk7z ?qkoz ?qk8z ?qk9z ?qk10z ?qk11z ?qk12z ?qk13z ?_; (case qk1z => k_asm); (case qk2z => k_asm); (case qk3z => k_asm); (case qk4z => k_inst); (case qk5z => exact rfl); (case qk6z => k_is); (case qk7z => k_is); (case qkoz => exact rfl); (case qk8z => k_is); (case qk9z => exact rfl); (case qk10z => exact rfl); (case qk11z => exact put_first); (case qk12z => k_upd); (case qk13z => exact Nat.le_of_ble_eq_true rfl); k_whole; intro _ _ _; (try k_sweep)))
  trivial

noncomputable def Hold (P : Prop) : Prop := P
theorem acc_init {w : World} {A : Around} {s : Shared} {g : Heap} {p : Program} {loose : List Str} {mg mb : Str → Option Value} {x dx : Addr} {R : Result → Shared → Prop} {v : Int} {tv : Tok}
    (X : (hd.heap_1 w.params).In g) (T : TopRead p loose mg mb g) (st : g.StaysIn s.heap) (hx : s.heap.get? x = some (listInst 195 dx)) (hgx : g.get? x = none) (hdx : s.heap.get? dx = some emptyDict) (hgd : g.get? dx = none)
    (hr : A.depth + 1 < recursionLimit)
    (h : ∀ h' n' hs tn ne tk, h'.get? x = some (accObj dx #[] n') → h'.get? dx = some (dictOf [⟨hs, .str "_initial_size" tn, .int v tv⟩] ne) → (∀ b o, b ≠ x → b ≠ dx → s.heap.get? b = some o → h'.get? b = some o) → R (.ok (.ret .none)) { s with heap := h', toks := tk }) :
    codeAny (model PR w) A (.call (.ref 132) ⟨[.ref x, .int v tv], []⟩) R s := by
  have n1 : Apart x dx := apart_of_obj hx hdx (by simp)
  refine' enterAt (binds := [("self", .ref x), ("initial_size", .int v tv)]) (led := [(x, listInst 195 dx), (dx, emptyDict)]) X T st ?hl ?ho ?hcd (om_0 hr) ?hb ?hloc ?_ ?hcell ?hco ?hgen ?hk
  case hl => simp only [List.forall_mem_cons, hx, hgx, hdx, hgd, and_self, List.not_mem_nil, false_imp_iff, implies_true]
  case ho => k_is
  case hcd => k_is
  case hb => exact binds_K (X.keeps st) rfl (by k_is) rfl rfl rfl
  case hloc => rfl
  case hcell => decide
  case hco => rfl
  case hgen => rfl
  case hk => rfl
  intro g' h₁ kp st' kp₁ F' N' X' T'
  refine ks_wpAt_execs_cons (wpAt_of_any (wpAny_mono (Q := fun b s₁ => Hold (b = .next ∧ ∃ h3 tk3 hs tn ne, s₁ = { s with heap := h3, toks := tk3 } ∧ Fr g' s.heap.objs.size h3 (fun y => List.lookup y [(("self" : Str), Value.ref x), (("initial_size" : Str), .int v tv)].reverse) ∧ News g' s.heap.objs.size h3 [(x, accObj dx #[] 0), (dx, dictOf [⟨hs, .str "_initial_size" tn, .int v tv⟩] ne)])) (E := fun _ _ => False) ?_ ?_ fun _ _ z => z))
  · k_extra "go"
    rename Fr _ _ _ _ => F
    rename News _ _ _ _ => N
    exact (show Hold _ from ⟨rfl, _, _, _, _, _, rfl, F, N⟩)
  · intro b s₁ hm
    unfold Hold at hm
    obtain ⟨rfl, h3, tk3, hs, tn, ne, rfl, F3, N3⟩ := hm
    clear F' N'
    have hx3 := (N3 _ (List.Mem.head _)).1
    dsimp only
    refine ks_wpAt_execs_cons (ks_wpAt_Expr_any ?_)
    refine' super_expr F3 X' T' hx3 rfl rfl ?hf ?hp ?hv ?hcode ?hvs ?hfile ?hcell ?hD ?hself ?hlist ?hsuper ?hop ?hat ?hks ?hkc ?hka ?hk ?htop ?hboot ?hm ?hT ?hg (.inl rfl) ?hget ?hpl entry_linit ?hck ?hc
    case hf => k_is
    case hp => exact rfl
    case hv => exact rfl
    case hcode => k_is
    case hvs => exact rfl
    case hfile => first | rfl | decide +kernel
    case hcell => k_is
    case hD => k_is
    case hself => k_is
    case hlist => k_is
    case hsuper => k_is
    case hop => k_is
    case hat => decide
    case hks => rfl
    case hkc => rfl
    case hka => rfl
    case hk => rfl
    case htop => decide +kernel
    case hboot => first | boot_by_name | rfl | kernel_rfl
    case hm => ks_is
    case hT => k_is
    case hg => k_is
    case hget => intro h g dd t os A E Q' Xh hx hq; exact wdget Xh hx rfl (.inr rfl) (by k_is) hq
    case hpl => decide +kernel
    case hck => intro h _ _; exact ck_init
    case hc =>
      intro h' tk k
      refine body_init (k _ _ hx3) fun h4 n4 a4 b4 => ⟨_, rfl, ?_⟩
      refine wpAt_of_any (wpAny_execs_nil ?_)
      refine h _ _ _ _ _ _ a4 (b4 _ _ (Ne.symm n1) (k _ _ (N3 (dx, _) (by k_mem)).1)) fun b o hb hb2 e => b4 b o hb (k _ _ (F3.keep _ _ (kp _ _ e (by simp [hb, hb2]))))
end
example : True := by
  k_with_none
  trivial
example : True := by
  k_with "go" =>
    repeat' (first | (k_unfold; (try dsimp only)) | walk1 | (dsimp only; walk1) | fail "no step")
  trivial

example : True := by
  k_with "getMethod ref" =>
    (k_here; k_dflt (refine' method_sub ?qk1z ?qk2z ?qk3z ?qk4z ?qk5z ?qk6z ?qk7z ?qk8z ?_; (case qk1z => k_asm); (case qk2z => k_asm); (case qk3z => k_inst); (case qk4z => k_is); (case qk5z => k_is); (case qk6z => k_is); (case qk7z => kernel_rfl); (case qk8z => k_get); k_whole))
  k_with "getAttr ref" =>
    (k_here; k_dflt (refine' get_sub ?qk1z ?qk2z ?qk3z ?qk4z ?qk5z ?qk6z ?qk7z ?qk8z ?qk9z ?qk10z ?qk11z ?_; (case qk1z => k_asm); (case qk2z => k_asm); (case qk3z => k_inst); (case qk4z => k_is); (case qk5z => k_is); (case qk6z => k_is); (case qk7z => k_is); (case qk8z => k_is); (case qk9z => k_is); (case qk10z => k_get); (case qk11z => k_handed); k_whole))
  k_with "subscriptTail Name Slice ref ref" =>
    (k_here; (with_reducible show wpAny _ _ (subscriptTail _ (PySem.Expr.Slice _ _ none _) (Value.ref _) (Value.ref _)) _ _ _); k_dflt
      (refine' slice_accF ?qFz ?qXz ?qNz ?qmz ?qp1z ?qp2z ?_ ?qzz ?qsz; (case qFz => k_asm); (case qXz => k_asm); (case qNz => k_asm); (case qmz => k_mem); (case qp1z => first | exact .int _ _ | exact .none); (case qp2z => first | exact .int _ _ | exact .none); (case qzz => first | exact Nat.le_trans (by assumption) (by decide) | omega); (case qsz => exact rfl); k_whole); intro _ _ _ _ zlt; k_lt zlt; (try (revert zlt; intro _)); (try k_sweep))
  k_with "setItem ref ref" =>
    (k_here; k_dflt
      (refine' store_accF ?qFz ?qXz ?qNz ?qp1z ?qaz ?qmz ?qUz ?_ ?qzz ?qsz; (case qFz => k_asm); (case qXz => k_asm); (case qNz => k_asm); (case qp1z => first | exact .inl (.int _ _) | exact .inr ⟨.none, rfl⟩); (case qmz => k_mem); (case qUz => k_upd); (case qaz => omega); (case qzz => first | exact Nat.le_trans (by assumption) (by decide) | omega); (case qsz => first | omega | (simp; omega) | simp); k_whole); intro _ _ _; (try k_sweep))
  k_with "setAttr ref" =>
    (k_here; k_dflt
      (refine' set_sub ?qk1z ?qk2z ?qk3z ?qk4z ?qk5z ?qk6z ?qk7z ?qkoz ?qk8z ?qk9z ?qk10z ?qk11z ?qk12z ?qk13z ?_; (case qk1z => k_asm); (case qk2z => k_asm); (case qk3z => k_asm); (case qk4z => k_inst); (case qk5z => exact rfl); (case qk6z => k_is); (case qk7z => k_is); (case qkoz => exact rfl); (case qk8z => k_is); (case qk9z => exact rfl); (case qk10z => k_get); (case qk11z => exact put_acc); (case qk12z => k_upd); (case qk13z => exact Nat.le_of_ble_eq_true rfl); k_whole; intro _ _ _; (try k_sweep)))
  trivial

example : True := by
  k_with "my_room" =>
    first | exact om_u (by assumption) (by decide) | exact om_w (by assumption) (by decide) | omega | (simp only [depth_in1, depth_deeper]; omega)
  k_with "k_parts" =>
    first
      | exact Parts.keeps ‹Parts _ _ _› (fun b o e _ => (Fr.keep ‹Fr _ _ _ _›) b o e)
      | (rw [Array.toList_push]; exact Parts.append (Parts.keeps ‹Parts _ _ _› (fun b o e _ => (Fr.keep ‹Fr _ _ _ _›) b o e)) (.cons (‹News _ _ _ _› _ (by k_mem)).1 .nil))
  k_with "call ref" =>
    (k_here; (with_reducible show wpAny _ _ (call (Value.ref 139) _) _ _ _); k_dflt
      (refine' push_F ?qFz ?qXz ?qTz ?qNz ?qDz ?qUz ?qrz ?qzz ?_; (case qFz => k_asm); (case qXz => k_asm); (case qTz => k_asm); (case qNz => k_asm); (case qUz => intro zt; k_upd); (case qDz => k_mem); (case qrz => k_extra "my_room"); (case qzz => first | assumption | exact Nat.le_trans (by assumption) (by decide) | (simp; omega) | omega); k_whole); intro _ _ _ _ _ zlt; ((replace zlt := allNe_of zlt); (simp only [AllNe, and_true] at zlt); (repeat ((have _ := And.left zlt); (replace zlt := And.right zlt)))); (try (revert zlt; intro _)); (try k_sweep))
  k_with "call ref" =>
    (k_here; (with_reducible show wpAny _ _ (call (Value.ref 192) _) _ _ _); k_dflt
      (refine' pcount_F ?qFz ?qXz ?qTz ?qNz ?qAz ?qrz ?_; (case qFz => k_asm); (case qXz => k_asm); (case qTz => k_asm); (case qNz => k_asm); (case qAz => k_mem); (case qrz => k_extra "my_room"); k_whole); intro _ _ _ _ _; (try k_sweep))
  k_with "call ref" =>
    (k_here; (with_reducible show wpAny _ _ (call (Value.ref 155) _) _ _ _); k_dflt
      (refine' pop_F ?qFz ?qXz ?qTz ?qNz ?qDz ?qUz ?qrz ?qzz ?_; (case qFz => k_asm); (case qXz => k_asm); (case qTz => k_asm); (case qNz => k_asm); (case qUz => intro zk; k_upd); (case qDz => k_mem); (case qrz => k_extra "my_room"); (case qzz => first | assumption | exact Nat.le_trans (by assumption) (by decide) | (simp; omega) | omega); k_whole); intro _ _ _ _ _; (try k_sweep))
  k_with "call ref" =>
    (k_here; (with_reducible show wpAny _ _ (call (Value.ref 147) _) _ _ _); k_dflt
      (refine' popfrom_F ?qFz ?qXz ?qTz ?qNz ?qAz ?qDz ?qez ?qwz ?qUz ?qrz ?qzz ?qiz ?_; (case qFz => k_asm); (case qXz => k_asm); (case qTz => k_asm); (case qNz => k_asm); (case qAz => k_mem); (case qez => first | assumption | apply_assumption); (case qwz => first | assumption | apply_assumption); (case qUz => intro zk; k_upd); (case qDz => k_mem); (case qrz => k_extra "my_room"); (case qzz => first | assumption | exact Nat.le_trans (by assumption) (by decide) | (simp; omega) | omega); (case qiz => first | assumption | (simp; done) | (simp; omega) | omega); k_whole); intro _ _ _ _ _ _ zlt; ((replace zlt := allNe_of zlt); (simp only [AllNe, and_true] at zlt); (repeat ((have _ := And.left zlt); (replace zlt := And.right zlt)))); (try (revert zlt; intro _)); (try k_sweep))
  k_with "call ref" =>
    (k_here; (with_reducible show wpAny _ _ (call (Value.ref 177) [_, _]) _ _ _); k_dflt
      (refine' reset_F ?qFz ?qXz ?qTz ?qNz ?qlz ?qUz ?qU2z ?qDz ?qrz ?qzz ?qnz ?_; (case qFz => k_asm); (case qXz => k_asm); (case qTz => k_asm); (case qNz => k_asm); (case qlz => k_mem); (case qUz => intro zk; k_upd); (case qU2z => intro zk zhs1 ztn1 zti1 zne1; k_upd); (case qDz => k_mem); (case qrz => k_extra "my_room"); (case qzz => first | assumption | exact Nat.le_trans (by assumption) (by decide) | (simp; omega) | omega); (case qnz => first | assumption | (simp; done) | (simp; omega) | omega); k_whole); intro _ _ _ _ _ _ _ _ _; (try k_sweep))
  k_with "call ref" =>
    (k_here; (with_reducible show wpAny _ _ (call (Value.ref 162) _) _ _ _); k_dflt
      (refine' len_F ?qFz ?qGz ?qNz ?qAz ?qDz ?qtrz ?qUz ?qhpz ?qhhz ?qrz ?qBz ?qzz ?qz2z ?_; (case qFz => k_asm); (case qGz => assumption); (case qNz => k_asm); (case qAz => k_mem); (case qDz => k_mem); (case qUz => intro _; k_upd); (case qtrz => assumption); (case qhpz => k_extra "k_parts"); (case qhhz => first | assumption | exact hh); (case qrz => k_extra "my_room"); (case qBz => assumption); (case qzz => first | assumption | exact Nat.le_trans (by assumption) (by decide) | (simp; omega) | omega); (case qz2z => assumption); k_whole); intro _ _ _ _ _ _ _ _ _; (try k_sweep))
  k_with "call ref" =>
    (k_here; (with_reducible show wpAny _ _ (call (Value.ref 169) _) _ _ _); k_dflt
      (refine' str_F ?qFz ?qGz ?qNz ?qAz ?qDz ?qtrz ?qUz ?qhpz ?qhhz ?qrz ?qBz ?qzz ?qz2z ?_; (case qFz => k_asm); (case qGz => assumption); (case qNz => k_asm); (case qAz => k_mem); (case qDz => k_mem); (case qUz => intro _; k_upd); (case qtrz => assumption); (case qhpz => k_extra "k_parts"); (case qhhz => first | assumption | exact hh); (case qrz => k_extra "my_room"); (case qBz => assumption); (case qzz => first | assumption | exact Nat.le_trans (by assumption) (by decide) | (simp; omega) | omega); (case qz2z => assumption); k_whole); intro _ _ _ _ _ _ _ _ _; (try k_sweep))
  k_with "my_drop" =>
    first | (refine' Drop.head ?qaz; (case qaz => k_all)) | (refine' Drop.tail ?qaz ?qbz; (case qaz => k_ne); (case qbz => k_extra "my_drop"))
  k_with "subscriptTail" =>
    (k_here; (with_reducible show wpAny _ _ (subscriptTail _ _ (Value.ref _) (Value.int _ _)) _ _ _); k_dflt
      (refine' item_accF ?qFz ?qXz ?qNz ?qmz ?qzz ?qfz ?qkz ?_ ?qsz; (case qFz => k_asm); (case qXz => k_asm); (case qNz => k_asm); (case qmz => k_mem); (case qkz => first | assumption | apply_assumption); (case qzz => first | exact Nat.le_trans (by assumption) (by decide) | omega); (case qfz => omega); (case qsz => exact rfl); k_whole))
  k_with "assign Tuple" =>
    (k_here; (with_reducible show wpAny _ _ (assign (Expr.Tuple _ _ _) _ (Value.ref _)) _ _ _); k_dflt (refine' unpackN_ ?qFz ?qNz ?qTz ?qk1z ?qk2z ?qk3z ?_; (case qFz => k_asm); (case qNz => k_asm); (case qTz => first | with_reducible assumption | (refine News.isTup (by k_asm) (by k_mem))); (case qk1z => assumption); (case qk2z => exact rfl); (case qk3z => exact rfl)); intro _ _ _; (try k_sweep))
  k_with "call type:str" =>
    (k_here; (with_reducible show wpAny _ _ (call (Value.type "str") [Value.ref _]) _ _ _); k_dflt (refine' kso_call ?qk1z ?qk2z ?qk3z ?qk4z ?qk5z ?_; (case qk1z => (refine units_2 ?_; first | exact om_w (by assumption) (by decide) | omega)); (case qk2z => k_in); (case qk3z => k_inst); (case qk4z => k_is); (case qk5z => k_is); k_whole))
  trivial
example : True := by
  k_with "call ref" =>
    (k_here; (with_reducible show wpAny _ _ (call (Value.ref 177) _) _ _ _); k_dflt
      (refine' reset0_F ?qFz ?qXz ?qTz ?qNz ?qUz ?qU2z ?qAz ?qDz ?qrz ?qzz ?_; (case qFz => k_asm); (case qXz => k_asm); (case qTz => k_asm); (case qNz => k_asm); (case qAz => k_mem); (case qUz => intro zk; k_upd); (case qU2z => intro zk zhs1 ztn1 zti1 zne1; k_upd); (case qDz => k_mem); (case qrz => k_extra "my_room"); (case qzz => first | assumption | exact Nat.le_trans (by assumption) (by decide) | (simp; omega) | omega); k_whole); intro _ _ _ _ _ _ _ _ _; (try k_sweep))
  k_with "call ref" =>
    (k_here; (with_reducible show wpAny _ _ (call (Value.ref 184) _) _ _ _); k_dflt
      (refine' onlyws_F ?qFz ?qGz ?qNz ?qAz ?qDz ?qP1z ?qP2z ?qtrz ?qtr2z ?qUz ?qVz ?qhpz ?qhhz ?quz ?qrz ?qBz ?qzz ?qz2z ?qz3z ?qz4z ?_; (case qFz => k_asm); (case qGz => assumption); (case qNz => k_asm); (case qAz => k_mem); (case qDz => k_mem); (case qP1z => k_mem); (case qP2z => k_mem); (case qUz => intro ztb; k_upd); (case qVz => intro _ ztb1; k_upd); (case qtrz => assumption); (case qtr2z => assumption); (case qhpz => k_extra "k_parts"); (case qhhz => first | assumption | exact hh); (case quz => first | (refine units_d ?_; first | exact om_u (by assumption) (by decide) | omega) | omega); (case qrz => k_extra "my_room"); (case qBz => assumption); (case qzz => first | assumption | exact Nat.le_trans (by assumption) (by decide) | (simp; omega) | omega); (case qz2z => assumption); (case qz3z => assumption); (case qz4z => assumption); k_whole); intro _ _ _ _ _ _ _ _ _ _; (try k_sweep))
  trivial
section
theorem acc_make {w : World} {A : Around} {s : Shared} {g : Heap} {p : Program} {loose : List Str} {mg mb : Str → Option Value} {v : Int} {tv : Tok} {Q E : Value → Shared → Prop}
    (X : (hd.heap_1 w.params).In g) (T : TopRead p loose mg mb g) (st : g.StaysIn s.heap) (hr : A.depth + 2 < recursionLimit)
    (h : ∀ x dx h' n' hs tn ne tk, s.heap.get? x = none → s.heap.get? dx = none → Apart x dx → h'.get? x = some (accObj dx #[] n') → h'.get? dx = some (dictOf [⟨hs, .str "_initial_size" tn, .int v tv⟩] ne) → (∀ b o, s.heap.get? b = some o → h'.get? b = some o) → Q (.ref x) { s with heap := h', toks := tk }) :
    wpAny (model PR w) A (call (.ref 195) [.int v tv]) Q E s := by
  obtain ⟨hp, gs, dr, tk, os⟩ := s
  have X1 := X.keeps (fun b o e => st b o e)
  have size_none : ∀ (h : Heap), h.get? h.objs.size = none := fun h => by
    cases q : h.get? h.objs.size with
    | none => rfl
    | some o => exact absurd (Heap.lt_size q) (Nat.lt_irrefl _)
  have size1_none : hp.get? (hp.objs.size + 1) = none := by
    cases q : hp.get? (hp.objs.size + 1) with
    | none => rfl
    | some o => exact absurd (Heap.lt_size q) (Nat.not_lt.mpr (Nat.le_succ _))
  have k : ∀ b o, hp.get? b = some o → ((hp.push emptyDict).push (listInst 195 hp.objs.size)).get? b = some o := fun b o e => Heap.get?_push_of_some _ (Heap.get?_push_of_some _ e)
  refine wpAny_call (makeL_core (init := .ref 132) (makesL_of X1 (by kernel_rfl)) (looks_findIn X1 (by k_is)) (fun self => bind_fn X1 self (by k_is)) ?_)
  refine acc_init (x := hp.objs.size + 1) (dx := hp.objs.size) X T (fun b o e => k _ _ (st b o e)) (by heap_get) ?_ (by heap_get) ?_ ?_ fun h' n' hs tn ne tk' hx hd kk => ?_
  · cases q : g.get? (hp.objs.size + 1) with
    | none => rfl
    | some o => have := st _ _ q; rw [size1_none] at this; cases this
  · cases q : g.get? hp.objs.size with
    | none => rfl
    | some o => have := st _ _ q; rw [size_none] at this; cases this
  · simp only [depth_under_make]; exact hr
  · refine ⟨rfl, h _ _ h' n' hs tn ne tk' size1_none (size_none hp) (by unfold Apart; omega) hx hd fun b o e => kk b o ?_ ?_ (k b o e)⟩
    · rintro rfl; rw [size1_none] at e; cases e
    · rintro rfl; rw [size_none] at e; cases e
theorem acc_make_F {w : World} {A : Around} {E : Value → Shared → Prop} {s : Shared} {g : Heap} {L : Addr} {m : Str → Option Value} {news : List (Addr × Obj)} {p : Program} {loose : List Str} {mg mb : Str → Option Value} {v : Int} {tv : Tok} {Q : Value → Shared → Prop}
    (F : Fr g L s.heap m) (X : (hd.heap_1 w.params).In g) (T : TopRead p loose mg mb g) (N : News g L s.heap news) (hr : A.depth + 2 < recursionLimit)
    (h : ∀ x dx h' n' hs tn ne tk, Fr g L h' m → News g L h' ((x, accObj dx #[] n') :: (dx, dictOf [⟨hs, .str "_initial_size" tn, .int v tv⟩] ne) :: news) → Apart x dx → (∀ p ∈ news, @Ne Nat p.1 x) → (∀ p ∈ news, @Ne Nat p.1 dx) → Q (.ref x) { s with heap := h', toks := tk }) :
    wpAny (model PR w) A (call (.ref 195) [.int v tv]) Q E s := by
  refine acc_make X T F.keep hr fun x dx h' n' hs tn ne tk h1 h2 h3 h4 h5 kk => ?_
  exact h x dx h' n' hs tn ne tk (fr_all F kk) (cons1 F N h1 (fr_all F kk) (cons1 F N h2 (fr_all F kk) (news_all N kk) h5) h4) h3 (apart N h1) (apart N h2)
end
example : True := by
  k_with "call ref" =>
    (k_here; (with_reducible show wpAny _ _ (call (Value.ref 195) _) _ _ _); k_dflt
      (refine' acc_make_F ?qFz ?qXz ?qTz ?qNz ?qrz ?_; (case qFz => k_asm); (case qXz => k_asm); (case qTz => k_asm); (case qNz => k_asm); (case qrz => k_extra "my_room"); k_whole); intro _ _ _ _ _ _ _ _ _ _ _ zlt1 zlt2; ((replace zlt1 := allNe_of zlt1); (simp only [AllNe, and_true] at zlt1); (repeat ((have _ := And.left zlt1); (replace zlt1 := And.right zlt1)))); ((replace zlt2 := allNe_of zlt2); (simp only [AllNe, and_true] at zlt2); (repeat ((have _ := And.left zlt2); (replace zlt2 := And.right zlt2)))); (try (revert zlt1; intro _)); (try (revert zlt2; intro _)); (try k_sweep))
  k_with "goF" =>
    repeat' (first | ((with_reducible refine wpAny_For ?qhz (hs := ?qhsz)); (case qhsz => (intro _; rfl))) | (k_unfold; (try dsimp only)) | walk1 | (dsimp only; walk1) | fail "no step")
  trivial
section
theorem fm_init {w : World} {A : Around} {s : Shared} {g : Heap} {p : Program} {loose : List Str} {mg mb : Str → Option Value} {x dx : Addr} {R : Result → Shared → Prop} {width : Int} {cws sp : Str} {t0 tw tc ts : Tok}
    (G : Gd w p loose mg mb g) (st : g.StaysIn s.heap) (hx : s.heap.get? x = some (instObj 111 dx)) (hgx : g.get? x = none) (hdx : s.heap.get? dx = some emptyDict) (hgd : g.get? dx = none)
    (hr : A.depth + 4 < recursionLimit) (hcl : cws.length ≤ 1000)
    (h : ∀ h' tk ls acc d, s.heap.get? ls = none → s.heap.get? acc = none → s.heap.get? d = none → Fmt h' x dx ls acc d width cws sp [] [] → (∀ b o, b ≠ x → b ≠ dx → s.heap.get? b = some o → h'.get? b = some o) → R (.ok (.ret .none)) ⟨h', s.gens, s.drawn, tk, s.os⟩) :
    codeAny (model PR w) A (.call (.ref 52) ⟨[.ref x, .int 0 t0, .int width tw, .str cws tc, .str sp ts], []⟩) R s := by
  have X := G.K
  have T := G.T
  have n1 : Apart x dx := apart_of_obj hx hdx (by simp)
  refine' enter (binds := [("self", .ref x), ("headerlen", .int 0 t0), ("maxlen", .int width tw), ("continuation_ws", .str cws tc), ("splitchars", .str sp ts)]) (led := [(x, instObj 111 dx), (dx, emptyDict)]) X T st ?hl ?ho ?hcd (om_0 hr) ?hb ?hloc ?_ ?hcell ?hco ?hgen ?hk
  case hl => simp only [List.forall_mem_cons, hx, hgx, hdx, hgd, and_self, List.not_mem_nil, false_imp_iff, implies_true]
  case ho => k_is
  case hcd => k_is
  case hb => exact BindsTo.of_eq rfl
  case hloc => rfl
  case hcell => decide
  case hco => rfl
  case hgen => rfl
  case hk => rfl
  intro g' h₁ kp st' kp₁ F' N' X' T'
  k_extra "go"
  rename Fr _ _ _ _ => F
  rename News _ _ _ _ => N
  have hA := N _ (List.Mem.head _)
  have hD := N _ (List.Mem.tail _ (List.Mem.head _))
  have hL := N _ (List.Mem.tail _ (List.Mem.tail _ (List.Mem.head _)))
  have hX := N _ (List.Mem.tail _ (List.Mem.tail _ (List.Mem.tail _ (List.Mem.head _))))
  have hDx := N _ (List.Mem.tail _ (List.Mem.tail _ (List.Mem.tail _ (List.Mem.tail _ (List.Mem.head _)))))
  have a1 := ne_of_obj hL.1 hX.1 (by simp [W.listOf])
  have a2 := ne_of_obj hL.1 hDx.1 (by simp [W.listOf, dictOf])
  have a3 := ne_of_obj hA.1 hX.1 (by simp)
  have a4 := ne_of_obj hA.1 hDx.1 (by simp [dictOf])
  have a5 := ne_of_obj hD.1 hX.1 (by simp [dictOf])
  refine h _ _ _ _ _ (fresh_of kp hL.2.2 ?_) (fresh_of kp hA.2.2 ?_) (fresh_of kp hD.2.2 ?_) ⟨?ne, hX.1, ⟨⟨_, _, _, _, _, _, _, _, _, _, _, _, _, _, _, _, _⟩, _, hDx.1⟩, ⟨_, _, hL.1, .nil⟩, ⟨_, _, hA.1, .nil⟩, ⟨_, _, _, _, hD.1⟩⟩ fun b o hb hb2 e => F.keep _ _ (kp _ _ e (by simp [hb, hb2]))
  case ne => exact (Apart.neq (by assumption)).symm
  · simp only [List.map_cons, List.map_nil, List.mem_cons, List.not_mem_nil, or_false, not_or]; exact ⟨a1, a2⟩
  · simp only [List.map_cons, List.map_nil, List.mem_cons, List.not_mem_nil, or_false, not_or]; exact ⟨a3, a4⟩
  · simp only [List.map_cons, List.map_nil, List.mem_cons, List.not_mem_nil, or_false, not_or]; exact ⟨a5, (Apart.neq (by assumption)).symm⟩
end
section
theorem fm_make {w : World} {A : Around} {s : Shared} {g : Heap} {p : Program} {loose : List Str} {mg mb : Str → Option Value} {width : Int} {cws sp : Str} {t0 tw tc ts : Tok} {Q E : Value → Shared → Prop}
    (G : Gd w p loose mg mb g) (st : g.StaysIn s.heap) (hr : A.depth + 5 < recursionLimit) (hcl : cws.length ≤ 1000)
    (h : ∀ h' tk fm df ls acc d, s.heap.get? fm = none → s.heap.get? df = none → s.heap.get? ls = none → s.heap.get? acc = none → s.heap.get? d = none → Fmt h' fm df ls acc d width cws sp [] [] → (∀ b o, s.heap.get? b = some o → h'.get? b = some o) → Q (.ref fm) ⟨h', s.gens, s.drawn, tk, s.os⟩) :
    wpAny (model PR w) A (call (.ref 111) [.int 0 t0, .int width tw, .str cws tc, .str sp ts]) Q E s := by
  obtain ⟨hp, gs, dr, tk, os⟩ := s
  have X := G.K
  have X1 := X.keeps (fun b o e => st b o e)
  have size_none : hp.get? hp.objs.size = none := by
    cases q : hp.get? hp.objs.size with
    | none => rfl
    | some o => exact absurd (Heap.lt_size q) (Nat.lt_irrefl _)
  have size1_none : hp.get? (hp.objs.size + 1) = none := by
    cases q : hp.get? (hp.objs.size + 1) with
    | none => rfl
    | some o => exact absurd (Heap.lt_size q) (Nat.not_lt.mpr (Nat.le_succ _))
  have k : ∀ b o, hp.get? b = some o → ((hp.push emptyDict).push (instObj 111 hp.objs.size)).get? b = some o := fun b o e => Heap.get?_push_of_some _ (Heap.get?_push_of_some _ e)
  have old : ∀ a, ((hp.push emptyDict).push (instObj 111 hp.objs.size)).get? a = none → hp.get? a = none := fun a e => by
    cases q : hp.get? a with
    | none => rfl
    | some o => rw [k _ _ q] at e; cases e
  refine wpAny_call (make_core (init := .ref 52) (makes_of X1 (by kernel_rfl)) (looks_findIn X1 (by k_is)) (fun self => bind_fn X1 self (by k_is)) (.inl rfl) ?_)
  refine fm_init (x := hp.objs.size + 1) (dx := hp.objs.size) G (fun b o e => k _ _ (st b o e)) (by heap_get) ?_ (by heap_get) ?_ ?_ hcl fun h' tk' ls acc d q1 q2 q3 Z kk => ?_
  · cases q : g.get? (hp.objs.size + 1) with
    | none => rfl
    | some o => have := st _ _ q; rw [size1_none] at this; cases this
  · cases q : g.get? hp.objs.size with
    | none => rfl
    | some o => have := st _ _ q; rw [size_none] at this; cases this
  · simp only [depth_under_make]; omega
  · refine ⟨rfl, h h' tk' _ _ ls acc d size1_none size_none (old _ q1) (old _ q2) (old _ q3) Z fun b o e => kk b o ?_ ?_ (k b o e)⟩
    · rintro rfl; rw [size1_none] at e; cases e
    · rintro rfl; rw [size_none] at e; cases e
end
section
inductive Words (h : Heap) : List Value → List (Str × List Str) → Prop
  | nil : Words h [] []
  | cons {T r : Addr} {t : Str} {tt : Tok} {rs : Array Value} {n : Nat} {row : List Str} {vs : List Value} {ws : List (Str × List Str)} : h.get? T = some (tupObj [.str t tt, .ref r]) → h.get? r = some (lstObj rs n) → StrsAre rs.toList row → Words h vs ws → Words h (.ref T :: vs) ((t, row) :: ws)
theorem Words.keeps {h h' : Heap} {vs : List Value} {ws : List (Str × List Str)} (x : Words h vs ws) (k : ∀ b o, h.get? b = some o → h'.get? b = some o) : Words h' vs ws := by
  induction x with
  | nil => exact .nil
  | cons a b c _ ih => exact .cons (k _ _ a) (k _ _ b) c ih
theorem Words.length {h : Heap} {vs : List Value} {ws : List (Str × List Str)} (x : Words h vs ws) : vs.length = ws.length := by
  induction x with
  | nil => rfl
  | cons _ _ _ _ ih => simp [ih]

theorem pair_store {prog : Program} {w : World} {A : Around} {E : Value → Shared → Prop} {s : Shared} {env : Env} {a b : Str} {pa pb pt : Pos} {k : Nat} {T : Addr} {va vb : Value} {m : Str → Option Value} {Q : Unit → Shared → Prop} (hh : A.handled = none) (ht : s.heap.get? T = some (tupObj [va, vb]))
    (hn : s.heap.Ns env.locals m) (ha : env.kindOf a = some .local) (hb : env.kindOf b = some .local) (hp : (env.scope.kind == .class || (env.scope.kind == .module && env.locals != env.globals)) = false)
    (h : ∀ h' tk, h'.Ns env.locals (fun x => if x = b then some vb else if x = a then some va else m x) → (∀ c o, @Ne Nat c env.locals → s.heap.get? c = some o → h'.get? c = some o) → Q () { s with heap := h', toks := tk }) :
    wpAny (model prog w) A (assign (.Tuple [.Name a pa, .Name b pb] k pt) env (.ref T)) Q E s := by
  refine assign_Tuple_tuple (items := #[va, vb]) hh ⟨_, ht, rfl, _, rfl⟩ rfl rfl fun h1 he => ?_
  have hn1 : h1.Ns env.locals m := hn.at' fun o e => he _ o (Nat.ne_of_lt (Heap.lt_size e)) e
  show wpAny _ _ (assignInOrder [assign (.Name a pa) env, assign (.Name b pb) env] [va, vb]) _ _ _
  refine assignInOrder_cons (wpAny_assign_Name (wpAny_storeName_local ha hn1 (fun h2 hn2 hs2 => ?_) hp))
  refine assignInOrder_cons (wpAny_assign_Name (wpAny_storeName_local hb hn2 (fun h3 hn3 hs3 => ?_) hp))
  refine assignInOrder_nil ?_
  exact h h3 _ hn3 fun c o hc e => (hs3.2 c hc).trans ((hs2.2 c hc).trans (he c o (Nat.ne_of_lt (Heap.lt_size e)) e))
theorem Fmt.keepsOk {h h' : Heap} {Ok : Addr → Prop} {fm df ls acc d : Addr} {width : Int} {cws sp : Str} {lines : List Str} {ps : List (Str × Str)} (Z : Fmt h fm df ls acc d width cws sp lines ps) (k : ∀ b o, Ok b → h.get? b = some o → h'.get? b = some o)
    (h1 : Ok fm) (h2 : Ok df) (h3 : Ok ls) (h4 : Ok acc) (h5 : Ok d) (hp : ∀ b a c, h.get? b = some (tupObj [a, c]) → Ok b) : Fmt h' fm df ls acc d width cws sp lines ps := by
  obtain ⟨z0, z1, ⟨f, n, z2⟩, ⟨vs, nl, z3, z3'⟩, ⟨its, n', z4, z4'⟩, ⟨hs, tn, ti, ne, z5⟩⟩ := Z
  exact ⟨z0, k _ _ h1 z1, ⟨f, n, k _ _ h2 z2⟩, ⟨vs, nl, k _ _ h3 z3, z3'⟩, ⟨its, n', k _ _ h4 z4, z4'.keeps fun b o e ⟨a, c, q⟩ => k b o (hp b a c (q ▸ e)) e⟩, ⟨hs, tn, ti, ne, k _ _ h5 z5⟩⟩
theorem ns_ne {h : Heap} {L b : Addr} {m : Str → Option Value} {its : List Value} (hn : h.Ns L m) (hb : h.get? b = some (tupObj its)) : @Ne Nat b L := fun q => by
  have q' : b = L := q
  subst q'
  obtain ⟨o, es, ep, e, hd, r⟩ := hn
  rw [hb] at e
  cases e
  first | cases hd | simp at hd
theorem sub_list {prog : Program} {w : World} {A : Around} {E : Value → Shared → Prop} {s : Shared} {l : Addr} {items : Array Value} {n : Nat} {value slice : Expr} {k : Int} {u : Tok} {x : Value} {ops : List Value} {Q : Value → Shared → Prop} (hl : s.heap.get? l = some (lstObj items n)) (h0 : 0 ≤ k) (hfit : k < 2 ^ 63) (hx : items[k.toNat]? = some x)
    (h : Q x s) (hs : subscripted slice false (.ref l) (.int k u) = operate ops (getItem (.ref l) (.int k u))) : wpAny (model prog w) A (subscriptTail value slice (.ref l) (.int k u)) Q E s := by
  have hT : s.TypeIs (.ref l) "list" := ⟨_, hl, rfl⟩
  unfold subscriptTail
  refine wpAny_bind ?_
  rw [getitemInPython_of_ne hT.not_modules]
  refine wpAny_bind (wpAny_specialOf hT list_getitem_lookup ?_)
  have fin : wpAny (model prog w) A (subscripted slice false (.ref l) (.int k u)) (fun r s₃ => wpAny (model prog w) A (letTemporaryGo value (.ref l) r >>= fun _ => pure r) Q E s₃) E s := by
    rw [hs]
    exact wpAny_operating (wpAny_mono (wpAny_getItem_list ⟨_, hl, rfl, _, rfl⟩ h0 hfit hx h) (fun r s₃ h₃ => wpAny_bind (wpAny_letTemporaryGo (wpAny_pure h₃))) fun _ _ x => x)
  first
    | exact wpAny_pure (wpAny_bind fin)
    | exact wpAny_bind (wpAny_pure (wpAny_bind fin))
    | exact wpAny_bind fin
theorem slice_listK {prog : Program} {w : World} {A : Around} {E : Value → Shared → Prop} {s : Shared} {l : Addr} {items : Array Value} {n : Nat} {value slice : Expr} {k : Nat} {u : Tok} {ops : List Value} {Q : Value → Shared → Prop} (hl : s.heap.get? l = some (lstObj items n)) (hz : items.size ≤ 1000)
    (h : ∀ l' h', s.heap.get? l' = none → h'.get? l' = some (lstObj (items.toList.drop k).toArray 0) → (∀ b o, s.heap.get? b = some o → h'.get? b = some o) → Q (.ref l') { s with heap := h' })
    (hs : subscripted slice false (.ref l) (.ref s.heap.objs.size) = operate ops (getItem (.ref l) (.ref s.heap.objs.size))) (ht : ∀ r, letTemporaryGo value (.ref l) r = pure ()) :
    wpAny (model prog w) A (subscriptTail value slice (.ref l) (.ref s.heap.objs.size)) Q E { s with heap := s.heap.push (sliceObj (.int k u) .none) } := by
  have hl' : (s.heap.push (sliceObj (.int k u) .none)).IsList l items := ⟨_, Heap.get?_push_of_some _ hl, rfl, _, rfl⟩
  refine subscriptTail_ops (T := "list") ⟨_, Heap.get?_push_of_some _ hl, rfl⟩ list_getitem_lookup (wpAny_getItem_list_slice hl' (Heap.IsSliceOf.new ..) (.int _ _) .none .none (by simp) ?_ (by rw [sizeLine_eq]; omega)) hs ht
  rw [slicePick_from' items k]
  refine h _ _ ?_ (Heap.get?_push_size _ rfl) fun b o e => Heap.get?_push_of_some _ (Heap.get?_push_of_some _ e)
  cases q : s.heap.get? (s.heap.push (sliceObj (.int k u) .none)).objs.size with
  | none => rfl
  | some o => exact absurd (Heap.lt_size (Heap.get?_push_of_some (sliceObj (.int k u) .none) q)) (Nat.lt_irrefl _)
theorem iter_listK {prog : Program} {w : World} {A : Around} {E : Value → Shared → Prop} {s : Shared} {l : Addr} {items : Array Value} {n : Nat} {Q : Value → Shared → Prop} (hl : s.heap.get? l = some (lstObj items n))
    (h : ∀ I h', s.heap.get? I = none → h'.IsListIter I l 0 → (∀ b o, s.heap.get? b = some o → h'.get? b = some o) → Q (.ref I) { s with heap := h' }) : wpAny (model prog w) A (pyIter (.ref l)) Q E s := by
  refine wpAny_pyIter_list ⟨_, hl, rfl, _, rfl⟩ (h _ _ ?_ ⟨_, Heap.get?_push_size _ rfl, rfl, rfl⟩ fun b o e => Heap.get?_push_of_some _ e)
  cases q : s.heap.get? s.heap.objs.size with
  | none => rfl
  | some o => exact absurd (Heap.lt_size q) (Nat.lt_irrefl _)
theorem for_list {w : World} {A : Around} {s : Shared} {R : Result → Shared → Prop} {target : Expr} {body : List Stmt} {env : Env} {l I : Addr} {items : Array Value} {g : Heap} {m : Str → Option Value} {Inv : Nat → (Str → Option Value) → Heap → Prop}
    (hh : A.handled = none) (hit : s.heap.IsListIter I l 0) (hl : s.heap.IsList l items) (hI : g.get? I = none) (hIL : @Ne Nat I env.locals) (hlI : @Ne Nat l I)
    (F : Fr g env.locals s.heap m) (B : AllBare s.gens)
    (stab : ∀ j m h h', Inv j m h → Fr g env.locals h m → h.IsListIter I l j → (∀ b o, @Ne Nat b env.locals → @Ne Nat b I → h.get? b = some o → h'.get? b = some o) → Inv j m h')
    (h0 : Inv 0 m s.heap)
    (turn : ∀ j v m₁ h gs tk oI oL, items[j]? = some v → Fr g env.locals h m₁ → Inv j m₁ h → AllBare gs → h.get? I = some oI → h.get? l = some oL →
      wpAny (model PR w) A (assign target env v) (fun _ s₂ => wpAny (model PR w) A (execs body env) (fun f s₃ => Hold (f = .next ∧ ∃ h' gs' tk' m', s₃ = ⟨h', gs', s.drawn, tk', s.os⟩ ∧ AllBare gs' ∧ Fr g env.locals h' m' ∧ Inv (j + 1) m' h' ∧ h'.get? I = some oI ∧ h'.get? l = some oL))
        (notedBy (model PR w) A env fun e s' => R (.error e) s') s₂) (notedBy (model PR w) A env fun e s' => R (.error e) s') ⟨h, gs, s.drawn, tk, s.os⟩)
    (done : ∀ h' gs' tk' m', Fr g env.locals h' m' → Inv items.size m' h' → AllBare gs' → R (.ok .next) ⟨h', gs', s.drawn, tk', s.os⟩) :
    codeAny (model PR w) A (.forLoop target (.ref I) body [] env) R s := by
  have hnk : ∀ {h h' : Heap} {m : Str → Option Value}, Fr g env.locals h m → (∀ b o, @Ne Nat b I → h.get? b = some o → h'.get? b = some o) → Fr g env.locals h' m := fun F k =>
    ⟨F.ns.at' fun o e => k _ o hIL.symm e, fun b o e => k b o (fun q => by have q' : b = I := q; rw [q', hI] at e; cases e) (F.keep b o e), F.above⟩
  refine codeAny_forLoop_any (fun k s' => ∃ h gs tk m j, s' = ⟨h, gs, s.drawn, tk, s.os⟩ ∧ AllBare gs ∧ Fr g env.locals h m ∧ Inv j m h ∧ h.IsListIter I l j ∧ h.IsList l items ∧ j ≤ items.size ∧ k = items.size - j) ?_ items.size
    ⟨s.heap, s.gens, s.toks, m, 0, rfl, B, F, h0, hit, hl, Nat.zero_le _, rfl⟩
  rintro k s' ⟨h, gs, tk, m, j, rfl, hB, hF, hInv, hit, hl, hj, rfl⟩
  by_cases hlt : j < items.size
  · have hx : items[j]? = some items[j] := by simp [hlt]
    refine wpAny_pyNext_list_item hit hl hx fun h1 hit1 sb => ?_
    have k1 : ∀ b o, @Ne Nat b I → h.get? b = some o → h1.get? b = some o := fun b o hb e => (sb.2 b hb).trans e
    have F1 := hnk hF k1
    have hl1 : h1.IsList l items := hl.at fun o e => k1 _ o hlI e
    dsimp only
    refine letGo_listiter hit1 ?_
    obtain ⟨oI, hoI, rI⟩ := hit1
    obtain ⟨oL, hoL, rL⟩ := hl1
    refine wpAny_mono (turn j _ m h1 gs tk oI oL hx F1 (stab _ _ _ _ hInv hF hit fun b o _ hb e => k1 b o hb e) hB hoI hoL) (fun _ s₂ h₂ => wpAny_mono h₂ (fun f s₃ h₃ => ?_) fun _ _ e => e) fun _ _ e => e
    obtain ⟨rfl, h', gs', tk', m', rfl, hB', F', hI', kk1, kk2⟩ := h₃
    exact ⟨items.size - (j + 1), by omega, h', gs', tk', m', j + 1, rfl, hB', F', hI', ⟨oI, kk1, rI⟩, ⟨oL, kk2, rL⟩, hlt, rfl⟩
  · have hx : items[j]? = none := by simp; omega
    have hje : j = items.size := by omega
    subst hje
    refine wpAny_pyNext_list_end hh hit hl hx fun h1 sb => ?_
    dsimp only
    refine wpAny_execs_nil ?_
    have k1 : ∀ b o, @Ne Nat b I → h.get? b = some o → h1.get? b = some o := fun b o hb e => sb b o hb e
    exact done _ _ _ _ (hnk hF k1) (stab _ _ _ _ hInv hF hit fun b o _ hb e => k1 b o hb e) hB
theorem fr_known {g h : Heap} {L : Addr} {m : Str → Option Value} {x : Str} {v : Value} (F : Fr g L h m) (e : m x = some v) : Fr g L h (fun y => if y = x then some v else m y) := by
  have q : (fun y => if y = x then some v else m y) = m := by
    funext y
    by_cases hy : y = x
    · rw [if_pos hy, hy, e]
    · rw [if_neg hy]
  rw [q]; exact F
theorem Words.at {h : Heap} {vs : List Value} {ws : List (Str × List Str)} (x : Words h vs ws) : ∀ {j : Nat} {v : Value}, vs[j]? = some v → ∃ T r t tt rs n row, v = .ref T ∧ ws[j]? = some (t, row) ∧ h.get? T = some (tupObj [.str t tt, .ref r]) ∧ h.get? r = some (lstObj rs n) ∧ StrsAre rs.toList row := by
  induction x with
  | nil => intro j v e; simp at e
  | @cons T r t tt rs n row vs ws a b c _ ih =>
    intro j v e
    cases j with
    | zero => simp at e; exact ⟨T, r, t, tt, rs, n, row, e.symm, rfl, a, b, c⟩
    | succ j => simp at e; obtain ⟨T, r, t, tt, rs, n, row, q⟩ := ih e; exact ⟨T, r, t, tt, rs, n, row, by simpa using q⟩
noncomputable def runA (width : Int) (t0 : Str) (ts : List Str) : List Str × List (Str × Str) := ts.foldl (fun st t => stepA width st ((" " : Str), t)) (([] : List Str), [(("" : Str), t0)])
theorem runA_snoc (width : Int) (t0 : Str) (ts : List Str) (t : Str) : runA width t0 (ts ++ [t]) = stepA width (runA width t0 ts) ((" " : Str), t) := by
  unfold runA; rw [List.foldl_append]; rfl
theorem stepA_le {width : Int} {st : List Str × List (Str × Str)} {q : Str × Str} {j : Nat} (h1 : st.1.length ≤ j) (h2 : st.2.length ≤ j + 1) (h3 : ∀ q ∈ st.2, q.1.length ≤ 1000 ∧ q.2.length ≤ 1000) (h4 : q.1.length ≤ 1000 ∧ q.2.length ≤ 1000) :
    (stepA width st q).1.length ≤ j + 1 ∧ (stepA width st q).2.length ≤ j + 1 + 1 ∧ ∀ q' ∈ (stepA width st q).2, q'.1.length ≤ 1000 ∧ q'.2.length ≤ 1000 := by
  unfold stepA
  split
  · split
    · refine ⟨by dsimp only; omega, by simp, fun q' m => ?_⟩
      rcases List.mem_singleton.mp m with rfl; exact h4
    · refine ⟨by simp; omega, by simp, fun q' m => ?_⟩
      rcases List.mem_singleton.mp m with rfl; exact h4
  · refine ⟨by dsimp only; omega, by simp; omega, fun q' m => ?_⟩
    rcases List.mem_append.mp m with m | m
    · exact h3 _ m
    · rcases List.mem_singleton.mp m with rfl; exact h4
theorem iter_ne_tup {h : Heap} {I l b : Addr} {j : Nat} {its : List Value} (hn : h.IsListIter I l j) (hb : h.get? b = some (tupObj its)) : @Ne Nat b I := fun q => by
  have q' : b = I := q
  subst q'
  obtain ⟨o, e, c, -⟩ := hn
  rw [hb] at e
  cases e
  have c' : Value.type "tuple" = Value.type "list_iterator" := c
  injection c' with c''
  exact absurd c'' (by decide)
theorem ne_of_none {h : Heap} {a b : Addr} {o : Obj} (ha : h.get? a = some o) (hb : h.get? b = none) : @Ne Nat a b := fun q => by
  have q' : a = b := q
  rw [q', hb] at ha; cases ha
theorem setSlot {g h h' : Heap} {L : Addr} {m m' : Str → Option Value} (F : Fr g L h m) (hn : h'.Ns L m') (k : ∀ c o, @Ne Nat c L → h.get? c = some o → h'.get? c = some o) : Fr g L h' m' :=
  ⟨hn, fun b o e => k b o (fun q => by
    have q' : b = L := q
    obtain ⟨o', es, ep, eL, hd⟩ := F.ns
    exact absurd (Heap.lt_size e) (q' ▸ Nat.not_lt.mpr F.above)) (F.keep b o e), F.above⟩
end
section
noncomputable def PlainW (t : Str) : Prop := t.cps.toList ≠ [] ∧ ∀ c ∈ t.cps.toList, 33 ≤ c ∧ c < 127
noncomputable def linesA (width : Int) (t0 : Str) (ts : List Str) : List Str := (runA width t0 ts).1 ++ [catParts (runA width t0 ts).2]
theorem cut_uniq {c : Nat} : ∀ {a b x y : List Nat}, c ∉ a → c ∉ b → a ++ c :: x = b ++ c :: y → a = b ∧ x = y
  | [], [], x, y, _, _, e => ⟨rfl, by simpa using e⟩
  | [], b :: bs, x, y, _, hb, e => by
    simp only [List.nil_append, List.cons_append, List.cons.injEq] at e
    exact absurd (e.1 ▸ List.mem_cons_self ..) hb
  | a :: as, [], x, y, ha, _, e => by
    simp only [List.nil_append, List.cons_append, List.cons.injEq] at e
    exact absurd (e.1 ▸ List.mem_cons_self ..) ha
  | a :: as, b :: bs, x, y, ha, hb, e => by
    simp only [List.cons_append, List.cons.injEq] at e
    obtain ⟨e1, e2⟩ := cut_uniq (fun q => ha (List.mem_cons_of_mem _ q)) (fun q => hb (List.mem_cons_of_mem _ q)) e.2
    exact ⟨by rw [e.1, e1], e2⟩
theorem str_eq {a b : Str} (h : a.cps.toList = b.cps.toList) : a = b := Str.ext' (Array.toList_inj.mp h)
theorem app_chars (a b : Str) : (a ++ b).cps.toList = a.cps.toList ++ b.cps.toList := by rw [Str.cps_append, Array.toList_append]
theorem join_cons2 (c : Nat) (x y : Str) (r : List Str) : (Str.join ⟨#[c]⟩ (x :: y :: r)).cps.toList = x.cps.toList ++ c :: (Str.join ⟨#[c]⟩ (y :: r)).cps.toList := by
  show (x ++ ⟨#[c]⟩ ++ Str.join ⟨#[c]⟩ (y :: r)).cps.toList = _
  rw [app_chars, app_chars]; simp
theorem join_uniq {c : Nat} : ∀ {A B : List Str}, A ≠ [] → B ≠ [] → (∀ p ∈ A, c ∉ p.cps.toList) → (∀ p ∈ B, c ∉ p.cps.toList) → (Str.join ⟨#[c]⟩ A).cps.toList = (Str.join ⟨#[c]⟩ B).cps.toList → A = B
  | [], _, h, _, _, _, _ => absurd rfl h
  | _ :: _, [], _, h, _, _, _ => absurd rfl h
  | [a], [b], _, _, _, _, e => by rw [str_eq (show a.cps.toList = b.cps.toList from e)]
  | [a], b :: b' :: r, _, _, ha, _, e => by
    rw [join_cons2] at e
    have e' : a.cps.toList = _ := e
    exact absurd (by rw [e']; simp) (ha a (List.mem_cons_self ..))
  | a :: a' :: r, [b], _, _, _, hb, e => by
    rw [join_cons2] at e
    have e' : _ = b.cps.toList := e
    exact absurd (by rw [← e']; simp) (hb b (List.mem_cons_self ..))
  | a :: a' :: r, b :: b' :: t, _, _, ha, hb, e => by
    rw [join_cons2, join_cons2] at e
    obtain ⟨e1, e2⟩ := cut_uniq (ha a (List.mem_cons_self ..)) (hb b (List.mem_cons_self ..)) e
    have := join_uniq (A := a' :: r) (B := b' :: t) (by simp) (by simp) (fun p m => ha p (List.mem_cons_of_mem _ m)) (fun p m => hb p (List.mem_cons_of_mem _ m)) e2
    rw [str_eq e1, this]
theorem split_join {ls : List Str} (h0 : ls ≠ []) (h : ∀ p ∈ ls, 10 ∉ p.cps.toList) : Txt.split (Txt.join "\n" ls) "\n" = ls := by
  have e : ("\n" : Str) = ⟨#[10]⟩ := by decide +kernel
  rw [e]
  have hp := split_pos (Txt.join ⟨#[10]⟩ ls) ⟨#[10]⟩
  refine join_uniq (c := 10) (fun q => by rw [q] at hp; simp at hp) h0 (StrLaws.split_free _ _) h ?_
  rw [StrLaws.join_split]
  show (Builtin.Str.glued _ _).cps.toList = _
  rw [StrLaws.glued_eq_join]
theorem join_chars : ∀ l : List Str, (Txt.join "" l).cps.toList = l.flatMap fun x => x.cps.toList := by
  intro l
  show (Builtin.Str.glued "" l).cps.toList = _
  rw [StrLaws.glued_eq_join]
  induction l with
  | nil => rfl
  | cons x r ih =>
    cases r with
    | nil => simp [Str.join]
    | cons y r =>
      show (x ++ "" ++ Str.join "" (y :: r)).cps.toList = _
      rw [app_chars, app_chars, ih]
      have e0 : (Str.ofString "").cps.toList = [] := rfl
      simp [e0]
theorem cat2_chars (q : Str × Str) : (cat2 q).cps.toList = q.1.cps.toList ++ q.2.cps.toList := by
  unfold cat2; rw [join_chars]; simp
theorem catParts_chars (ps : List (Str × Str)) : (catParts ps).cps.toList = ps.flatMap fun q => q.1.cps.toList ++ q.2.cps.toList := by
  unfold catParts; rw [join_chars, List.flatMap_map]
  congr 1; funext q; exact cat2_chars q
structure InvA (k : Nat) (st : List Str × List (Str × Str)) : Prop where
  nl : ∀ l ∈ st.1, 10 ∉ l.cps.toList
  pl : ∀ q ∈ st.2, (q.1 = "" ∨ q.1 = " ") ∧ PlainW q.2 ∧ q.2.length ≤ 100
  ne : st.2 ≠ []
  sz : (st.1.map (·.length)).sum + lens st.2 ≤ 101 * k ∧ st.1.length ≤ k
theorem catParts_nl {ps : List (Str × Str)} (h : ∀ q ∈ ps, (q.1 = "" ∨ q.1 = " ") ∧ PlainW q.2 ∧ q.2.length ≤ 100) : 10 ∉ (catParts ps).cps.toList := by
  rw [catParts_chars, List.mem_flatMap]
  rintro ⟨q, m, e⟩
  obtain ⟨h1, h2, -⟩ := h q m
  rcases List.mem_append.mp e with e | e
  · rcases h1 with h1 | h1 <;> rw [h1] at e <;> revert e <;> decide +kernel
  · have := h2.2 _ e; omega
theorem len_chars (x : Str) : x.length = x.cps.toList.length := by rw [Array.length_toList]; rfl
theorem catParts_len (ps : List (Str × Str)) : (catParts ps).length = lens ps := by
  rw [len_chars, catParts_chars, lens]
  induction ps with
  | nil => rfl
  | cons q r ih => simp only [List.flatMap_cons, List.length_append, List.map_cons, List.sum_cons, ih, len_chars]
theorem lens_snoc (ps : List (Str × Str)) (q : Str × Str) : lens (ps ++ [q]) = lens ps + (q.1.length + q.2.length) := by simp [lens]
theorem invA_step {width : Int} {k : Nat} {st : List Str × List (Str × Str)} {t : Str} (h : InvA k st) (ht : PlainW t ∧ t.length ≤ 100) : InvA (k + 1) (stepA width st ((" " : Str), t)) := by
  obtain ⟨h1, h2, h3, h4, h5⟩ := h
  have c1 : (Str.ofString " ").length = 1 := rfl
  unfold stepA
  split
  · refine ⟨?_, ?_, by simp, ?_, ?_⟩
    · intro l m
      rcases List.mem_append.mp m with m | m
      · exact h1 l m
      · rw [List.mem_singleton.mp m]; exact catParts_nl h2
    · intro q m
      rw [List.mem_singleton.mp m]; exact ⟨.inr rfl, ht⟩
    · have e1 := catParts_len st.2
      have e2 : lens [((" " : Str), t)] = (Str.ofString " ").length + t.length := by simp [lens]
      simp only [List.map_append, List.sum_append, List.map_cons, List.map_nil, List.sum_cons, List.sum_nil, e1, e2]
      have := ht.2
      omega
    · simp; omega
  · refine ⟨h1, ?_, by simp, ?_, Nat.le_succ_of_le h5⟩
    · intro q m
      rcases List.mem_append.mp m with m | m
      · exact h2 q m
      · rw [List.mem_singleton.mp m]; exact ⟨.inr rfl, ht⟩
    · have e2 := lens_snoc st.2 ((" " : Str), t)
      dsimp only at e2 ⊢
      rw [e2]
      have := ht.2
      omega
theorem invA_run {width : Int} : ∀ (ts : List Str) {k : Nat} {st : List Str × List (Str × Str)}, InvA k st → (∀ t ∈ ts, PlainW t ∧ t.length ≤ 100) → InvA (k + ts.length) (ts.foldl (fun st t => stepA width st ((" " : Str), t)) st)
  | [], _, _, h, _ => h
  | t :: ts, k, st, h, ht => by
    have := invA_run (width := width) ts (invA_step (width := width) h (ht t (List.mem_cons_self ..))) fun x m => ht x (List.mem_cons_of_mem _ m)
    rw [List.foldl_cons, List.length_cons, show k + (ts.length + 1) = k + 1 + ts.length by omega]; exact this
theorem not_space : ∀ c, c < 127 → 33 ≤ c → Unicode.isSpace c = false := by decide +kernel
theorem foldA_good {width : Int} {t0 : Str} {ts : List Str} (h : ∀ t ∈ t0 :: ts, PlainW t ∧ t.length ≤ 100) (hz : ts.length ≤ 50) : ∃ (ps₀ : List (Str × Str)) (f₀ t₀ : Str), (runA width t0 ts).2 = ps₀ ++ [(f₀, t₀)] ∧ t₀ ≠ "" ∧ Txt.isspace (catParts (ps₀ ++ [(f₀, t₀)])) = false ∧
    JoinOk ("\n" : Str) ((runA width t0 ts).1 ++ [catParts (ps₀ ++ [(f₀, t₀)])]) = true ∧ Txt.split (Txt.join "\n" (linesA width t0 ts)) "\n" = linesA width t0 ts ∧ (Txt.join "\n" (linesA width t0 ts)).length ≤ 100000 := by
  have I0 : InvA 1 (([] : List Str), [(("" : Str), t0)]) := by
    refine ⟨fun l m => (List.not_mem_nil m).elim, ?_, by simp, ?_, by simp⟩
    · intro q m
      rw [List.mem_singleton.mp m]; exact ⟨.inl rfl, h t0 (List.mem_cons_self ..)⟩
    · have := (h t0 (List.mem_cons_self ..)).2
      have e2 : lens [(("" : Str), t0)] = (Str.ofString "").length + t0.length := by simp [lens]
      have c0 : (Str.ofString "").length = 0 := rfl
      show 0 + lens [(("" : Str), t0)] ≤ _
      omega
  have I := invA_run (width := width) ts I0 fun t m => h t (List.mem_cons_of_mem _ m)
  have I' : InvA (1 + ts.length) (runA width t0 ts) := I
  obtain ⟨h1, h2, h3, h4, h5⟩ := I'
  have e0 := catParts_len (runA width t0 ts).2
  have hN : ∀ p ∈ linesA width t0 ts, 10 ∉ p.cps.toList := by
    intro p m
    rcases List.mem_append.mp m with m | m
    · exact h1 p m
    · rw [List.mem_singleton.mp m]; exact catParts_nl h2
  have hs : ((linesA width t0 ts).map (·.length)).sum ≤ 101 * (1 + ts.length) := by
    unfold linesA
    simp only [List.map_append, List.sum_append, List.map_cons, List.map_nil, List.sum_cons, List.sum_nil, e0]
    omega
  have hl : (linesA width t0 ts).length ≤ 52 := by
    unfold linesA
    rw [List.length_append]
    simp only [List.length_cons, List.length_nil]
    omega
  have c1 : ("\n" : Str).length = 1 := rfl
  obtain ⟨ps₀, ⟨f₀, t₀⟩, e⟩ : ∃ ps₀ q, (runA width t0 ts).2 = ps₀ ++ [q] := ⟨_, _, (List.dropLast_concat_getLast h3).symm⟩
  have hq := h2 (f₀, t₀) (by rw [e]; simp)
  refine ⟨ps₀, f₀, t₀, e, ?_, ?_, ?_, split_join (by unfold linesA; simp) hN, ?_⟩
  · intro q
    have : t₀ = "" := q
    exact hq.2.1.1 (by show t₀.cps.toList = []; rw [this]; rfl)
  · rw [← e]
    unfold Txt.isspace
    rw [Bool.and_eq_false_iff]
    refine .inr ?_
    rw [← Array.all_toList, catParts_chars, List.all_eq_false, e]
    obtain ⟨hne, hc⟩ := hq.2.1
    cases hcs : t₀.cps.toList with
    | nil => exact absurd hcs hne
    | cons c cs =>
      have hb := hc c (by show c ∈ t₀.cps.toList; rw [hcs]; simp)
      refine ⟨c, ?_, by rw [not_space c hb.2 hb.1]; simp⟩
      rw [List.flatMap_append]
      simp [hcs]
  · rw [← e]
    refine joinOk_of ?_
    show (((linesA width t0 ts)).map (·.length)).sum + (linesA width t0 ts).length * _ ≤ _
    rw [c1]; omega
  · show (Builtin.Str.glued _ _).length ≤ _
    rw [PySem.size_glued, c1]; omega
end
section
theorem folded_spec {w : World} {A : Around} {s : Shared} {g : Heap} {p : Program} {loose : List Str} {mg mb : Str → Option Value} {wl : Addr} {vs : Array Value} {n : Nat} {width : Int} {tw : Tok} {w₀ : Str × List Str} {ws : List (Str × List Str)} {Q E : Value → Shared → Prop}
    (G : Gd w p loose mg mb g) (st : g.StaysIn s.heap) (hwl : s.heap.get? wl = some (lstObj vs n)) (hW : Words s.heap vs.toList (w₀ :: ws)) (hT : TabI 157 s.heap) (hgT : g.get? 157 = none) (hT2 : TabI 164 s.heap) (hgT2 : g.get? 164 = none)
    (hh : A.handled = none) (hu : A.units + 400 < cLine) (hr : A.depth + 10 < recursionLimit) (hB : AllBare s.gens) (hz : ws.length ≤ 50) (hpl : ∀ q ∈ w₀ :: ws, PlainW q.1 ∧ q.1.length ≤ 100)
    (h : ∀ h' gs tk D us nu, s.heap.get? D = none → h'.get? D = some (lstObj us nu) → StrsAre us.toList (linesA width w₀.1 (ws.map (·.1))) → TabI 157 h' → TabI 164 h' → AllBare gs → (∀ b o, b ≠ 157 → b ≠ 164 → s.heap.get? b = some o → h'.get? b = some o) → Q (.ref D) ⟨h', gs, s.drawn, tk, s.os⟩) :
    wpAny (model PR w) A (call (.ref 251) [.ref wl, .int width tw]) Q E s := by
  have hlen : ∀ q ∈ w₀ :: ws, q.1.length ≤ 100 := fun q m => (hpl q m).2
  obtain ⟨tb1, hP1, htr1⟩ := hT
  obtain ⟨tb2, hP2, htr2⟩ := hT2
  have n20 : Apart 157 164 := by unfold Apart; decide
  refine wpAny_call ?_
  refine' enter (binds := [("words", .ref wl), ("width", .int width tw)]) (led := [(157, tabObj tb1), (164, tabObj tb2)]) G.K G.T st ?hl ?ho ?hcd (om_0 hr) ?hb ?hloc ?_ ?hcell ?hco ?hgen ?hk
  case hl => simp only [List.forall_mem_cons, hP1, hgT, hP2, hgT2, and_self, List.not_mem_nil, false_imp_iff, implies_true]
  case ho => k_is
  case hcd => k_is
  case hb => exact BindsTo.of_eq rfl
  case hloc => rfl
  case hcell => decide
  case hco => rfl
  case hgen => rfl
  case hk => rfl
  intro g' h₁ kp st' kp₁ F' N' X' T'
  k_extra "go"
  have G' : Gd w p loose mg mb g' := ⟨X', T', G.B.keeps st'⟩
  have hWg : Words g' vs.toList (w₀ :: ws) := by
    have aux : ∀ {us : List Value} {qs : List (Str × List Str)}, Words s.heap us qs → Words g' us qs := fun x => by
      induction x with
      | nil => exact .nil
      | cons a b c _ ih => exact .cons (kp _ _ a (by simp only [List.map_cons, List.map_nil, List.mem_cons, List.not_mem_nil, or_false]; rintro (rfl | rfl) <;> simp_all)) (kp _ _ b (by simp only [List.map_cons, List.map_nil, List.mem_cons, List.not_mem_nil, or_false]; rintro (rfl | rfl) <;> simp_all)) c ih
    exact aux hW
  have hwlg : g'.get? wl = some (lstObj vs n) := kp _ _ hwl (by simp only [List.map_cons, List.map_nil, List.mem_cons, List.not_mem_nil, or_false]; rintro (rfl | rfl) <;> simp_all)
  refine fm_make G' F'.keep (show A.depth + 1 + 5 < recursionLimit from om_u hr (by decide)) (by decide) fun h2 tk2 fm df ls acc d q1 q2 q3 q4 q5 Z k2 => ?_
  have F2 := fr_all F' k2
  have neL : ∀ a, h₁.get? a = none → @Ne Nat a s.heap.objs.size ∧ g'.get? a = none := fun a e => by
    obtain ⟨o, es, ep, eL, _⟩ := F'.ns
    refine ⟨fun q => ?_, ?_⟩
    · have q' : a = s.heap.objs.size := q
      rw [q', eL] at e; cases e
    · cases q : g'.get? a with
      | none => rfl
      | some o => rw [F'.keep _ _ q] at e; cases e
  have m1 := neL _ q1
  have m2 := neL _ q2
  have m3 := neL _ q3
  have m4 := neL _ q4
  have m5 := neL _ q5
  have hN157 := N' (157, tabObj tb1) (by k_mem)
  have hN164 := N' (164, tabObj tb2) (by k_mem)
  refine wpAny_storeName_local rfl F2.ns (fun h3 hn3 hs3 => ?_) rfl
  have k3 : ∀ b o, @Ne Nat b s.heap.objs.size → h2.get? b = some o → h3.get? b = some o := fun b o hb e => (hs3.2 b hb).trans e
  have F3 := F2.set hn3 hs3
  have Z3 := Z.keepsOk (Ok := fun b => @Ne Nat b s.heap.objs.size) k3 m1.1 m2.1 m3.1 m4.1 m5.1 fun b a c e => ns_ne F2.ns e
  have hT3 : TabI 157 h3 := ⟨_, k3 _ _ hN157.2.1 (k2 _ _ hN157.1), htr1⟩
  have hT4 : TabI 164 h3 := ⟨_, k3 _ _ hN164.2.1 (k2 _ _ hN164.1), htr2⟩
  clear F' N' F2 Z
  dsimp only
  have Z3' := Z3
  obtain ⟨-, z1, ⟨f, nf, z2⟩, -, -, -⟩ := Z3'
  have N3 : News g' s.heap.objs.size h3 [(fm, fmtObj df), (df, fmtDict f width " " " " ls acc nf)] := by
    simp only [News, List.forall_mem_cons, List.not_mem_nil, false_imp_iff, implies_true, and_true]
    exact ⟨⟨z1, m1⟩, z2, m2⟩
  k_extra "go"
  generalize hus : vs.toList = us at hWg
  cases hWg with | cons hT0 hR0 hS0 hWs =>
  rename Fr _ _ _ _ => F
  rename News _ _ _ _ => N
  rename_i T0 r0 t0 tt0 rs0 nr0 row0 vs'
  have hx0 : vs[(0 : Int).toNat]? = some (.ref T0) := by
    rw [← Array.getElem?_toList, hus]; rfl
  refine sub_list (F.keep _ _ hwlg) (Int.le_refl 0) (by decide) hx0 ?_ rfl
  k_extra "go"
  refine item_tuple (j := 0) (x := .str t0 tt0) ⟨_, F.keep _ _ hT0, rfl, _, rfl⟩ (by decide) (by decide) rfl rfl ?_
  k_extra "go"
  refine append_spec G' F.keep Z3 ?_ hT3 hT4 hh (show A.units + 3 + 100 < cLine from om_u hu (by decide)) (show A.depth + 1 + 4 < recursionLimit from om_u hr (by decide)) hB (by simp) (by simp) ?_ (by simp) (by simp) fun h5 gs5 tk5 lines5 ps5 e5 Z5 hT5 hT6 hB5 k5 => ?_
  · simp only [List.forall_mem_cons, List.not_mem_nil, false_imp_iff, implies_true, and_true]
    exact ⟨m1.2, m2.2, m3.2, m4.2, m5.2, hN157.2.2, hN164.2.2⟩
  · exact ⟨by decide, Nat.le_trans (hlen _ (List.Mem.head _)) (by decide)⟩
  have hst : lines5 = [] ∧ ps5 = [(("" : Str), t0)] := by
    unfold stepA at e5
    simp only [List.nil_append, if_true] at e5
    split at e5 <;> (cases e5; exact ⟨rfl, rfl⟩)
  obtain ⟨rfl, rfl⟩ := hst
  clear e5
  have hsub : ∀ a ∈ [ls, acc, d, 157, 164], g'.get? a = none ∧ @Ne Nat a s.heap.objs.size := by
    simp only [List.forall_mem_cons, List.not_mem_nil, false_imp_iff, implies_true, and_true]
    exact ⟨⟨m3.2, m3.1⟩, ⟨m4.2, m4.1⟩, ⟨m5.2, m5.1⟩, ⟨hN157.2.2, hN157.2.1⟩, ⟨hN164.2.2, hN164.2.1⟩⟩
  have F5 := fr_after F k5 hsub
  clear F N Z3 hT3 hT4 z2
  have Z5' := Z5
  obtain ⟨-, z1, ⟨f5, nf5, z2⟩, -, -, -⟩ := Z5'
  have N5 : News g' s.heap.objs.size h5 [(fm, fmtObj df), (df, fmtDict f5 width " " " " ls acc nf5)] := by
    simp only [News, List.forall_mem_cons, List.not_mem_nil, false_imp_iff, implies_true, and_true]
    exact ⟨⟨z1, m1⟩, z2, m2⟩
  dsimp only
  k_extra "go"
  refine wpAny_For ?_
  k_extra "go"
  rename Fr _ _ _ _ => F
  rename News _ _ _ _ => N
  have hvz : vs.size = ws.length + 1 := by
    have e1 := hW.length
    rw [List.length_cons, Array.length_toList] at e1
    exact e1
  refine slice_listK (F.keep _ _ hwlg) (by omega) (fun sl h6 q6 hsl k6 => ?_) rfl (fun _ => rfl)
  k_extra "go"
  refine iter_listK hsl (fun I h7 q7 hI k7 => ?_)
  have k57 : ∀ b o, h5.get? b = some o → h7.get? b = some o := fun b o e => k7 b o (k6 b o e)
  have F7 := fr_all F k57
  have Z7 := Z5.keepsOk (Ok := fun _ => True) (fun b o _ e => k57 b o e) trivial trivial trivial trivial trivial fun _ _ _ _ => trivial
  have hit7 : TabI 157 h7 := by obtain ⟨t, a, b⟩ := hT5; exact ⟨t, k57 _ _ a, b⟩
  have hit8 : TabI 164 h7 := by obtain ⟨t, a, b⟩ := hT6; exact ⟨t, k57 _ _ a, b⟩
  have neI : ∀ {b : Addr} {o : Obj}, h5.get? b = some o → @Ne Nat b I := fun e => ne_of_none (k6 _ _ e) q7
  have neS : ∀ {b : Addr} {o : Obj}, h5.get? b = some o → @Ne Nat b sl := fun e => ne_of_none e q6
  have hvs : (vs.toList.drop 1).toArray = vs'.toArray := by rw [hus]; rfl
  have hvl : vs'.length = ws.length := hWs.length
  rw [hvs] at hsl
  have hIo := k7 _ _ hsl
  have hlI : @Ne Nat sl I := ne_of_none hsl q7
  have hin : ∀ b ∈ [fm, df, ls, acc, d, 157, 164], (@Ne Nat b s.heap.objs.size ∧ @Ne Nat b I) ∧ @Ne Nat b sl := by
    obtain ⟨-, -, ⟨_, _, z2⟩, ⟨_, _, z3, -⟩, ⟨_, _, z4, -⟩, ⟨_, _, _, _, z5⟩⟩ := Z5
    obtain ⟨_, z6, -⟩ := hT5
    obtain ⟨_, z7, -⟩ := hT6
    simp only [List.forall_mem_cons, List.not_mem_nil, false_imp_iff, implies_true, and_true]
    exact ⟨⟨⟨m1.1, neI z1⟩, neS z1⟩, ⟨⟨m2.1, neI z2⟩, neS z2⟩, ⟨⟨m3.1, neI z3⟩, neS z3⟩, ⟨⟨m4.1, neI z4⟩, neS z4⟩, ⟨⟨m5.1, neI z5⟩, neS z5⟩, ⟨⟨hN157.2.1, neI z6⟩, neS z6⟩, ⟨hN164.2.1, neI z7⟩, neS z7⟩
  have hgI : g'.get? I = none := by
    cases q : g'.get? I with
    | none => rfl
    | some o => exact absurd rfl (neI (F.keep _ _ q))
  have hIL : @Ne Nat I s.heap.objs.size := by
    obtain ⟨o, es, ep, eL, _⟩ := F.ns
    exact (neI eL).symm
  have hSL : @Ne Nat sl s.heap.objs.size := by
    obtain ⟨o, es, ep, eL, _⟩ := F.ns
    exact (neS eL).symm
  clear F N hs3 hn3 k3 k6 k7 Z5
  refine for_list (l := sl) (items := vs'.toArray)
    (Inv := fun j m h => ∃ lines ps, m "maker" = some (.ref fm) ∧ (lines, ps) = runA width t0 ((ws.take j).map (·.1)) ∧ Fmt h fm df ls acc d width " " " " lines ps ∧ TabI 157 h ∧ TabI 164 h ∧ lines.length ≤ j ∧ ps.length ≤ j + 1 ∧ ∀ q ∈ ps, q.1.length ≤ 1000 ∧ q.2.length ≤ 1000)
    hh hI ⟨_, hIo, rfl, _, rfl⟩ hgI hIL hlI F7 hB5 ?stab ?h0 ?turn ?done
  case stab =>
    rintro j m h h' ⟨lines, ps, a1, a2, a3, a4, a5, a6, a7, a8⟩ F hit k
    refine ⟨lines, ps, a1, a2, a3.keepsOk (Ok := fun b => @Ne Nat b s.heap.objs.size ∧ @Ne Nat b I) (fun b o x e => k b o x.1 x.2 e) (hin fm (by simp)).1 (hin df (by simp)).1 (hin ls (by simp)).1 (hin acc (by simp)).1 (hin d (by simp)).1 (fun b a c e => ⟨ns_ne F.ns e, iter_ne_tup hit e⟩), ?_, ?_, a6, a7, a8⟩
    · obtain ⟨t, a, b⟩ := a4; exact ⟨t, k _ _ (hin 157 (by simp)).1.1 (hin 157 (by simp)).1.2 a, b⟩
    · obtain ⟨t, a, b⟩ := a5; exact ⟨t, k _ _ (hin 164 (by simp)).1.1 (hin 164 (by simp)).1.2 a, b⟩
  case h0 =>
    refine ⟨[], [(("" : Str), t0)], rfl, rfl, Z7, hit7, hit8, Nat.le_refl _, Nat.le_refl _, ?_⟩
    simp only [List.forall_mem_cons, List.not_mem_nil, false_imp_iff, implies_true, and_true]
    exact ⟨by decide, Nat.le_trans (hlen _ (List.Mem.head _)) (by decide)⟩
  case turn =>
    rintro j v m₁ h gs tk oI oL hx F hInv hB hoI hoL
    refine hide_Q2 fun Q' E' hQ' => ?_
    obtain ⟨lines, ps, a1, a2, a3, a4, a5, a6, a7, a8⟩ := hInv
    have hx' : vs'[j]? = some v := by simpa using hx
    obtain ⟨T, r, t, tt, rs, nr, row, rfl, hw, hT, hR, hS⟩ := hWs.at hx'
    have hjl : j < ws.length := by
      obtain ⟨q, -⟩ := List.getElem?_eq_some_iff.mp hw; exact q
    refine pair_store (m := m₁) hh (F.keep _ _ hT) F.ns rfl rfl rfl (fun h1 tk1 hn1 k1 => ?_)
    have F1 := setSlot F hn1 k1
    have F2 := fr_known F1 (x := "maker") (v := .ref fm) (by
      show (if ("maker" : Str) = "parts" then _ else if ("maker" : Str) = "text" then _ else m₁ "maker") = _
      rw [if_neg (by decide +kernel), if_neg (by decide +kernel)]; exact a1)
    have Z2 := a3.keepsOk (Ok := fun b => @Ne Nat b s.heap.objs.size) k1 m1.1 m2.1 m3.1 m4.1 m5.1 (fun b a c e => ns_ne F.ns e)
    have T1 : TabI 157 h1 := by obtain ⟨t, a, b⟩ := a4; exact ⟨t, k1 _ _ hN157.2.1 a, b⟩
    have T2 : TabI 164 h1 := by obtain ⟨t, a, b⟩ := a5; exact ⟨t, k1 _ _ hN164.2.1 a, b⟩
    have Z2' := Z2
    obtain ⟨-, z1, ⟨f5, nf5, z2⟩, -, -, -⟩ := Z2'
    have N5 : News g' s.heap.objs.size h1 [(fm, fmtObj df), (df, fmtDict f5 width " " " " ls acc nf5)] := by
      simp only [News, List.forall_mem_cons, List.not_mem_nil, false_imp_iff, implies_true, and_true]
      exact ⟨⟨z1, m1⟩, z2, m2⟩
    clear F F1 F7 a3 a4 a5
    dsimp only
    k_extra "go"
    rename Fr _ _ _ _ => F
    rename News _ _ _ _ => N
    have hmem : ((t, row) : Str × List Str) ∈ ws := List.mem_of_getElem? hw
    refine append_spec G' F.keep Z2 ?_ T1 T2 hh (show A.units + 3 + 100 < cLine from om_u hu (by decide)) (show A.depth + 1 + 4 < recursionLimit from om_u hr (by decide)) hB (by omega) a8 ?_ (by omega) (fun _ => rfl) fun h5 gs5 tk5 lines5 ps5 e5 Z5 hT5 hT6 hB5 k5 => ?_
    · simp only [List.forall_mem_cons, List.not_mem_nil, false_imp_iff, implies_true, and_true]
      exact ⟨m1.2, m2.2, m3.2, m4.2, m5.2, hN157.2.2, hN164.2.2⟩
    · exact ⟨by decide, Nat.le_trans (hlen _ (List.Mem.tail _ hmem)) (by decide)⟩
    have F5 := fr_after F k5 hsub
    dsimp only
    k_extra "go"
    have hle := stepA_le (width := width) (st := (lines, ps)) (q := ((" " : Str), t)) a6 a7 a8 ⟨Nat.le_of_ble_eq_true rfl, Nat.le_trans (hlen _ (List.Mem.tail _ hmem)) (by decide)⟩
    rw [← e5] at hle
    refine hQ' _ _ (show Hold _ from ⟨rfl, _, _, _, _, rfl, hB5, F5, ⟨lines5, ps5, rfl, ?_, Z5, hT5, hT6, hle.1, hle.2.1, hle.2.2⟩, k5 _ _ (fun q => (hin _ (List.Mem.tail _ (List.Mem.tail _ q))).1.2 rfl) (k1 _ _ hIL hoI), k5 _ _ (fun q => (hin _ (List.Mem.tail _ (List.Mem.tail _ q))).2 rfl) (k1 _ _ hSL hoL)⟩)
    rw [e5, List.take_add_one, hw, a2]
    show _ = runA width t0 (List.map _ (_ ++ [(t, row)]))
    rw [List.map_append]
    exact (runA_snoc ..).symm
  case done =>
    rintro h' gs' tk' m' F ⟨lines, ps, a1, a2, a3, a4, a5, a6, a7, a8⟩ hB
    have F2 := fr_known F a1
    have hsz : vs'.toArray.size = ws.length := by simpa using hvl
    rw [hsz, List.take_length] at a2
    rw [hsz] at a6 a7
    obtain ⟨ps₀, f₀, t₀, b1, b2, b3, b4, b5, b6⟩ := foldA_good (width := width) (t0 := t0) (ts := ws.map (·.1)) (fun t m => by
      rcases List.mem_cons.mp m with rfl | m
      · exact hpl _ (List.Mem.head _)
      · obtain ⟨q, q1, rfl⟩ := List.mem_map.mp m
        exact hpl _ (List.Mem.tail _ q1)) (by simpa using hz)
    have hps : ps = ps₀ ++ [(f₀, t₀)] := by rw [← b1, ← a2]
    have hlines : lines = (runA width t0 (ws.map (·.1))).1 := by rw [← a2]
    rw [← hlines] at b4
    rw [hps] at a3 a7 a8
    have a3' := a3
    obtain ⟨-, z1, ⟨f5, nf5, z2⟩, -, -, -⟩ := a3'
    have N5 : News g' s.heap.objs.size h' [(fm, fmtObj df), (df, fmtDict f5 width " " " " ls acc nf5)] := by
      simp only [News, List.forall_mem_cons, List.not_mem_nil, false_imp_iff, implies_true, and_true]
      exact ⟨⟨z1, m1⟩, z2, m2⟩
    clear F F7
    dsimp only
    k_extra "go"
    rename Fr _ _ _ _ => F
    rename News _ _ _ _ => N
    have hl0 : ps₀.length ≤ 100 := by rw [List.length_append] at a7; simp at a7; omega
    refine str_lines_spec G' F.keep a3 ?_ a4 a5 hh (show A.units + 3 + 300 < cLine from om_u hu (by decide)) (show A.depth + 1 + 8 < recursionLimit from om_u hr (by decide)) hB hl0 a8 (by omega) b2 b3 b4 fun h5 gs5 tk5 tk5' hT5 hT6 hB5 k5 => ?_
    · simp only [List.forall_mem_cons, List.not_mem_nil, false_imp_iff, implies_true, and_true]
      exact ⟨m1.2, m2.2, m3.2, m4.2, m5.2, hN157.2.2, hN164.2.2⟩
    have F5 := fr_after F k5 hsub
    obtain ⟨tb5, p5, r5⟩ := hT5
    obtain ⟨tb6, p6, r6⟩ := hT6
    have N6 : News g' s.heap.objs.size h5 [(157, tabObj tb5), (164, tabObj tb6)] := by
      simp only [News, List.forall_mem_cons, List.not_mem_nil, false_imp_iff, implies_true, and_true]
      exact ⟨⟨p5, hN157.2⟩, p6, hN164.2⟩
    clear F N
    have hlA : lines ++ [catParts (ps₀ ++ [(f₀, t₀)])] = linesA width t0 (ws.map (·.1)) := by
      unfold linesA; rw [← a2, ← hps]
    rw [hlA]
    dsimp only
    k_extra "go"
    rename_i l8 h8 k8 c1 c2 c3 c4 F8 N8
    rw [b5] at c1
    rw [c1] at c2
    have hD := N8 _ (.head _)
    refine h _ _ _ _ (strValues l8).toArray 0 ?_ hD.1 c2 ⟨tb5, (N8 (157, tabObj tb5) (by k_mem)).1, r5⟩ ⟨tb6, (N8 (164, tabObj tb6) (by k_mem)).1, r6⟩ hB5 (fun b o n1 n2 e => F8.keep _ _ (kp _ _ e (by simp only [List.map_cons, List.map_nil, List.mem_cons, List.not_mem_nil, or_false, not_or]; exact ⟨n1, n2⟩)))
    cases q : s.heap.get? h5.objs.size with
    | none => rfl
    | some o =>
      by_cases e1 : h5.objs.size = 157
      · exact absurd (Heap.lt_size p5) (e1 ▸ Nat.lt_irrefl _)
      by_cases e2 : h5.objs.size = 164
      · exact absurd (Heap.lt_size p6) (e2 ▸ Nat.lt_irrefl _)
      have := kp _ _ q (by simp only [List.map_cons, List.map_nil, List.mem_cons, List.not_mem_nil, or_false, not_or]; exact ⟨e1, e2⟩)
      have h2 := hD.2.2
      dsimp only at h2
      rw [this] at h2
      cases h2
end
section
theorem iter_rangeK {w : World} {A : Around} {E : Value → Shared → Prop} {s : Shared} {r : Addr} {a b c : Int} {t u v : Tok} {Q : Value → Shared → Prop} (hr : IsRange s.heap r a b c t u v) (hsmall : Builtin.Range.small a b c = true)
    (h : ∀ I h', s.heap.get? I = none → h'.get? I = some (rngIt a (Builtin.Range.rangeSize a b c) c) → (∀ b o, s.heap.get? b = some o → h'.get? b = some o) → Q (.ref I) { s with heap := h' }) : wpAny (model PR w) A (pyIter (.ref r)) Q E s := by
  refine wpAny_pyIter_range hr hsmall (h _ _ ?_ (Heap.get?_push_size _ rfl) fun b o e => Heap.get?_push_of_some _ e)
  cases q : s.heap.get? s.heap.objs.size with
  | none => rfl
  | some o => exact absurd (Heap.lt_size q) (Nat.lt_irrefl _)
theorem fr_knowns {g h : Heap} {L : Addr} {m : Str → Option Value} (l : List (Str × Value)) (F : Fr g L h m) (e : ∀ q ∈ l, m q.1 = some q.2) : Fr g L h (fun y => match List.lookup y l with | some v => some v | none => m y) := by
  have q : (fun y => match List.lookup y l with | some v => some v | none => m y) = m := by
    funext y
    induction l with
    | nil => rfl
    | cons a r ih =>
      obtain ⟨x, v⟩ := a
      rw [List.lookup_cons]
      cases hq : y == x with
      | true => have := eq_of_beq hq; subst this; exact (e _ (.head _)).symm
      | false => exact ih fun q m => e q (.tail _ m)
  rw [q]; exact F
theorem look_ne {x y : Str} {v w : Option Value} {m : Str → Option Value} (h : y ≠ x) (e : m y = w) : (fun z => if z = x then v else m z) y = w := by
  show (if y = x then _ else _) = _
  rw [if_neg h]; exact e
noncomputable def pieceText : List Str := ["*", "?", "a", ".", "[ab]", "[!b-d]", "#", "b"]
noncomputable def piecePart (sign : Str) : List Str := ["many", sign, "a", "\\.", "[ab]", "[^b-d]", "\\#", "b"]
noncomputable def dig (x : Int) (j : Nat) : Nat := ((x / 8 ^ j) % 8).toNat
noncomputable def addDig (st : Str × List Str) (d : Nat) : Str × List Str := (st.1 ++ pieceText.getD d "", if 0 < d ∨ st.2.getLast? ≠ some "many" then st.2 ++ [(piecePart "any").getD d ""] else st.2)
noncomputable def wordOf (x : Int) (n : Nat) : Str × List Str := (List.range n).foldl (fun st j => addDig st (dig x j)) ((("" : Str), []) : Str × List Str)
theorem strsAre_get {vs : Array Value} {ts : List Str} (h : StrsAre vs.toList ts) {j : Nat} (hj : j < ts.length) : ∃ t, vs[j]? = some (.str (ts.getD j "") t) := by
  rw [← Array.getElem?_toList]
  generalize vs.toList = l at h
  induction h generalizing j with
  | nil => simp at hj
  | cons x t _ ih =>
    cases j with
    | zero => exact ⟨t, rfl⟩
    | succ j => exact ih (by simpa using hj)
theorem slice_lastK {prog : Program} {w : World} {A : Around} {E : Value → Shared → Prop} {s : Shared} {l : Addr} {items : Array Value} {n : Nat} {value slice : Expr} {u : Tok} {ops : List Value} {Q : Value → Shared → Prop} (hl : s.heap.get? l = some (lstObj items n)) (hz : items.size ≤ 1000)
    (h : ∀ l' h', s.heap.get? l' = none → h'.get? l' = some (lstObj (items.toList.drop (items.size - 1)).toArray 0) → (∀ b o, s.heap.get? b = some o → h'.get? b = some o) → Q (.ref l') { s with heap := h' })
    (hs : subscripted slice false (.ref l) (.ref s.heap.objs.size) = operate ops (getItem (.ref l) (.ref s.heap.objs.size))) (ht : ∀ r, letTemporaryGo value (.ref l) r = pure ()) :
    wpAny (model prog w) A (subscriptTail value slice (.ref l) (.ref s.heap.objs.size)) Q E { s with heap := s.heap.push (sliceObj (.int (-1) u) .none) } := by
  have hl' : (s.heap.push (sliceObj (.int (-1) u) .none)).IsList l items := ⟨_, Heap.get?_push_of_some _ hl, rfl, _, rfl⟩
  refine subscriptTail_ops (T := "list") ⟨_, Heap.get?_push_of_some _ hl, rfl⟩ list_getitem_lookup (wpAny_getItem_list_slice hl' (Heap.IsSliceOf.new ..) (.int _ _) .none .none (by simp) ?_ (by rw [sizeLine_eq]; omega)) hs ht
  rw [show slicePick items (some (-1)) none none = _ from slicePick_last items 1 (Nat.le_refl 1)]
  refine h _ _ ?_ (Heap.get?_push_size _ rfl) fun b o e => Heap.get?_push_of_some _ (Heap.get?_push_of_some _ e)
  cases q : s.heap.get? (s.heap.push (sliceObj (.int (-1) u) .none)).objs.size with
  | none => rfl
  | some o => exact absurd (Heap.lt_size (Heap.get?_push_of_some (sliceObj (.int (-1) u) .none) q)) (Nat.lt_irrefl _)
theorem shaped_strs : ∀ ns : List Str, (∀ x ∈ ns, PyData.strOk x = true) → PyData.canLayAll0 (ns.map PyData.str) = true ∧ PyData.depthAll (ns.map PyData.str) = 0
  | [], _ => ⟨rfl, rfl⟩
  | x :: r, h => by
    have ih := shaped_strs r fun y m => h y (.tail _ m)
    simp [PyData.canLayAll0, PyData.canLay0, PyData.depthAll, PyData.depth, ih.1, ih.2, h x (.head _)]
theorem shaped_lst {ns : List Str} (h : ∀ x ∈ ns, PyData.strOk x = true) : SeqAt.shaped (.list (ns.map PyData.str)) = true := by
  have := shaped_strs ns h
  simp [SeqAt.shaped, PyData.canLay0, PyData.depth, this.1, this.2]
theorem eqv_strsAll : ∀ ns ms : List Str, PyData.eqvAll (ns.map PyData.str) (ms.map PyData.str) = decide (ns = ms)
  | [], [] => by simp [PyData.eqvAll]
  | [], _ :: _ => by simp [PyData.eqvAll]
  | _ :: _, [] => by simp [PyData.eqvAll]
  | a :: r, b :: t => by
    simp only [List.map_cons, PyData.eqvAll, PyData.eqv, eqv_strsAll r t]
    by_cases h : a = b <;> by_cases h' : r = t <;> simp [h, h']
theorem eqv_lst (ns ms : List Str) : PyData.eqv (.list (ns.map PyData.str)) (.list (ms.map PyData.str)) = decide (ns = ms) := by
  simp only [PyData.eqv]; exact eqv_strsAll ns ms
theorem ne_strs {prog : Program} {w : World} {A : Around} {E : Value → Shared → Prop} {s : Shared} {a b : Addr} {xs ys : Array Value} {n k : Nat} {ns ms : List Str} {Q : Value → Shared → Prop} (ha : s.heap.get? a = some (lstObj xs n)) (hb : s.heap.get? b = some (lstObj ys k)) (hi : StrsAre xs.toList ns) (hj : StrsAre ys.toList ms)
    (h1 : ∀ x ∈ ns, PyData.strOk x = true) (h2 : ∀ x ∈ ms, PyData.strOk x = true) (hu : A.units + 64 < cLine) (h : Q (.bool (!decide (ns = ms))) s) :
    wpAny (model prog w) A (compareOp .NotEq (.ref a) (.ref b)) Q E s :=
  ne_dataH (.list ha rfl rfl (strs_readAll _ hi)) (.list hb rfl rfl (strs_readAll _ hj)) (shaped_lst h1) (shaped_lst h2) hu (by rw [eqv_lst]; exact h)
theorem dig_eq (x : Int) (j : Nat) : (x.fdiv (8 ^ ((j : Int)).toNat)).fmod 8 = ((dig x j : Nat) : Int) := by
  unfold dig
  have h8 : (0 : Int) < 8 ^ j := Int.pow_pos (by decide)
  rw [Int.toNat_natCast, Int.fdiv_eq_ediv_of_nonneg _ (Int.le_of_lt h8), Int.fmod_eq_emod_of_nonneg _ (by decide)]
  exact (Int.toNat_of_nonneg (Int.emod_nonneg _ (by decide))).symm
theorem dig_lt (x : Int) (j : Nat) : dig x j < 8 := by
  unfold dig
  have := Int.emod_lt_of_pos (x / 8 ^ j) (show (0 : Int) < 8 by decide)
  have := Int.emod_nonneg (x / 8 ^ j) (show (8 : Int) ≠ 0 by decide)
  omega
theorem wordOf_succ (x : Int) (n : Nat) : wordOf x (n + 1) = addDig (wordOf x n) (dig x n) := by
  unfold wordOf; rw [List.range_succ, List.foldl_append]; rfl
theorem pieceText_len (d : Nat) : (pieceText.getD d "").length ≤ 6 := by
  unfold pieceText
  match d with
  | 0 | 1 | 2 | 3 | 4 | 5 | 6 | 7 => exact Nat.le_of_ble_eq_true rfl
  | n + 8 => exact Nat.le_of_ble_eq_true rfl
theorem wordOf_len (x : Int) (j : Nat) : (wordOf x j).1.length ≤ 6 * j := by
  induction j with
  | zero => exact Nat.le_of_ble_eq_true rfl
  | succ j ih =>
    rw [wordOf_succ]
    show ((wordOf x j).1 ++ _).length ≤ _
    rw [Str.length_append]
    have := pieceText_len (dig x j)
    omega
theorem strsAre_len {vs : List Value} {ts : List Str} (h : StrsAre vs ts) : vs.length = ts.length := by
  induction h with
  | nil => rfl
  | cons _ _ _ ih => simp [ih]
theorem wordOf_rows (x : Int) (j : Nat) : (wordOf x j).2.length ≤ j := by
  induction j with
  | zero => exact Nat.le_refl _
  | succ j ih =>
    rw [wordOf_succ]
    unfold addDig
    dsimp only
    split
    · rw [List.length_append]; simp; omega
    · omega
theorem news_new {g h h' : Heap} {L a : Addr} {o : Obj} {m : Str → Option Value} {news : List (Addr × Obj)} (F : Fr g L h m) (N : News g L h news) (q : h.get? a = none) (e : h'.get? a = some o) (k : ∀ b x, h.get? b = some x → h'.get? b = some x) : News g L h' ((a, o) :: news) := by
  intro p hp
  rcases List.mem_cons.mp hp with rfl | hp
  · refine ⟨e, fun r => ?_, ?_⟩
    · obtain ⟨o', es, ep, eL, _⟩ := F.ns
      have r' : a = L := r
      rw [r', eL] at q; cases q
    · cases r : g.get? a with
      | none => rfl
      | some y => rw [F.keep _ _ r] at q; cases q
  · exact ⟨k _ _ (N p hp).1, (N p hp).2⟩
theorem piecePart_ok (d : Nat) : PyData.strOk ((piecePart "any").getD d "") = true := by
  unfold piecePart
  match d with
  | 0 | 1 | 2 | 3 | 4 | 5 | 6 | 7 => decide +kernel
  | n + 8 => show PyData.strOk ("" : Str) = true; decide +kernel
theorem addDig_ok {st : Str × List Str} {d : Nat} (h : ∀ x ∈ st.2, PyData.strOk x = true) : ∀ x ∈ (addDig st d).2, PyData.strOk x = true := by
  unfold addDig
  dsimp only
  split
  · intro x m
    rcases List.mem_append.mp m with m | m
    · exact h x m
    · rcases List.mem_singleton.mp m with rfl; exact piecePart_ok d
  · exact h
theorem wordOf_ok (x : Int) (j : Nat) : ∀ y ∈ (wordOf x j).2, PyData.strOk y = true := by
  induction j with
  | zero => intro y m; cases m
  | succ j ih => rw [wordOf_succ]; exact addDig_ok ih
theorem strsAre_drop {vs : List Value} {ts : List Str} (h : StrsAre vs ts) : ∀ k, StrsAre (vs.drop k) (ts.drop k) := by
  induction h with
  | nil => intro k; simp; exact .nil
  | cons x t r ih =>
    intro k
    cases k with
    | zero => exact .cons x t r
    | succ k => exact ih k
theorem drop_last {l : List Str} (s : Str) : l.drop (l.length - 1) = [s] ↔ l.getLast? = some s := by
  induction l with
  | nil => simp
  | cons a r ih =>
    cases r with
    | nil => simp
    | cons b r =>
      rw [List.getLast?_cons_cons, ← ih]
      simp
noncomputable def Small (n : Nat) : Prop := n ≤ 1000
theorem Small.line {n : Nat} (h : Small n) : n ≤ sizeLine := Nat.le_trans h (by rw [sizeLine_eq]; decide)
end
section
theorem ki_setL_snoc : ∀ (l : List Value) (x v : Value), ki_setL (l ++ [x]) l.length v = some (l ++ [v])
  | [], _, _ => rfl
  | a :: r, x, v => by
    show (match ki_setL (r ++ [x]) r.length v with | some q => some (a :: q) | none => none) = _
    rw [ki_setL_snoc r x v]; rfl
theorem set_lastF {w : World} {A : Around} {E : Value → Shared → Prop} {s : Shared} {g : Heap} {L D : Addr} {m : Str → Option Value} {news news' : List (Addr × Obj)} {pv : Array Value} {x v : Value} {n : Nat} {t : Tok} {Q : Unit → Shared → Prop} (F : Fr g L s.heap m) (N : News g L s.heap news)
    (U : Upd D (lstObj (pv.push x) n) (lstObj (pv.push v) n) news news') (h : ∀ h', Fr g L h' m → News g L h' news' → Q () { s with heap := h' }) : wpAny (model PR w) A (setItem (.ref D) (.int (-1) t) v) Q E s := by
  refine ki_setNeg (its := pv.push x) (n := n) (j := pv.size) (q := (pv.push v).toList) F N (by decide) (by decide) ?_ ?_ U h
  · rw [PySem.seqIndex_neg (by decide) (by rw [Array.size_push]; omega)]
    rw [Array.size_push]
    congr 1
    omega
  · rw [Array.toList_push, Array.toList_push, ← Array.length_toList]
    exact ki_setL_snoc _ _ _
theorem sub_last {prog : Program} {w : World} {A : Around} {E : Value → Shared → Prop} {s : Shared} {l : Addr} {pv : Array Value} {n : Nat} {value slice : Expr} {u : Tok} {x : Value} {ops : List Value} {Q : Value → Shared → Prop} (hl : s.heap.get? l = some (lstObj (pv.push x) n))
    (h : Q x s) (hs : subscripted slice false (.ref l) (.int (-1) u) = operate ops (getItem (.ref l) (.int (-1) u))) : wpAny (model prog w) A (subscriptTail value slice (.ref l) (.int (-1) u)) Q E s := by
  have hT : s.TypeIs (.ref l) "list" := ⟨_, hl, rfl⟩
  unfold subscriptTail
  refine wpAny_bind ?_
  rw [getitemInPython_of_ne hT.not_modules]
  refine wpAny_bind (wpAny_specialOf hT list_getitem_lookup ?_)
  have hx : (pv.push x)[((-1 : Int) + (pv.push x).size).toNat]? = some x := by
    rw [Array.size_push, show ((-1 : Int) + ((pv.size + 1 : Nat) : Int)).toNat = pv.size by omega]
    simp
  have fin : wpAny (model prog w) A (subscripted slice false (.ref l) (.int (-1) u)) (fun r s₃ => wpAny (model prog w) A (letTemporaryGo value (.ref l) r >>= fun _ => pure r) Q E s₃) E s := by
    rw [hs]
    exact wpAny_operating (wpAny_mono (wpAny_getItem_list_neg ⟨_, hl, rfl, _, rfl⟩ (by decide) (by rw [Array.size_push]; omega) (by decide) hx h) (fun r s₃ h₃ => wpAny_bind (wpAny_letTemporaryGo (wpAny_pure h₃))) fun _ _ x => x)
  first
    | exact wpAny_pure (wpAny_bind fin)
    | exact wpAny_bind (wpAny_pure (wpAny_bind fin))
    | exact wpAny_bind fin
theorem for_words {w : World} {A : Around} {s : Shared} {R : Result → Shared → Prop} {value slice : Expr} {a b : Str} {pa pb pt : Pos} {kt : Nat} {body : List Stmt} {env : Env} {wl : Addr} {u : Tok} {vs : Array Value} {n : Nat} {v0 : Value} {vs' : List Value} {ws : List (Str × List Str)} {ops : List Value} {g : Heap} {m : Str → Option Value} {Inv : Nat → (Str → Option Value) → Heap → Prop} {E : Value → Shared → Prop}
    (hh : A.handled = none) (hwl : g.get? wl = some (lstObj vs n)) (hus : vs.toList = v0 :: vs') (hWs : Words g vs' ws) (hz : vs.size ≤ 1000)
    (ha : env.kindOf a = some .local) (hb : env.kindOf b = some .local) (hp : (env.scope.kind == .class || (env.scope.kind == .module && env.locals != env.globals)) = false)
    (F : Fr g env.locals s.heap m) (B : AllBare s.gens)
    (stab : ∀ j m h h' (X : Addr → Prop), Inv j m h → Fr g env.locals h m → (∀ x, X x → s.heap.get? x = none ∧ ∃ o, h.get? x = some o ∧ o.cls = .type "list_iterator") → (∀ b o, @Ne Nat b env.locals → ¬ X b → h.get? b = some o → h'.get? b = some o) → Inv j m h')
    (h0 : Inv 0 m s.heap)
    (turn : ∀ j t tt r rs nr row m₁ h gs tk I sl oI oL, j < ws.length → ws[j]? = some (t, row) → g.get? r = some (lstObj rs nr) → StrsAre rs.toList row → Fr g env.locals h (fun x => if x = b then some (.ref r) else if x = a then some (.str t tt) else m₁ x) → Inv j m₁ h → AllBare gs →
      s.heap.get? I = none → s.heap.get? sl = none → News g env.locals h [(I, oI), (sl, oL)] →
      wpAny (model PR w) A (execs body env) (fun f s₃ => Hold (f = .next ∧ ∃ h' gs' tk' m', s₃ = ⟨h', gs', s.drawn, tk', s.os⟩ ∧ AllBare gs' ∧ Fr g env.locals h' m' ∧ Inv (j + 1) m' h' ∧ h'.get? I = some oI ∧ h'.get? sl = some oL))
        (notedBy (model PR w) A env fun e s' => R (.error e) s') ⟨h, gs, s.drawn, tk, s.os⟩)
    (done : ∀ h' gs' tk' m', Fr g env.locals h' m' → Inv ws.length m' h' → AllBare gs' → R (.ok .next) ⟨h', gs', s.drawn, tk', s.os⟩)
    (hs : subscripted slice false (.ref wl) (.ref s.heap.objs.size) = operate ops (getItem (.ref wl) (.ref s.heap.objs.size))) (ht : ∀ r, letTemporaryGo value (.ref wl) r = pure ()) :
    wpAny (model PR w) A (subscriptTail value slice (.ref wl) (.ref s.heap.objs.size)) (fun x s₁ => wpAny (model PR w) A (pyIter x) (fun it s₂ => codeAny (model PR w) A (.forLoop (.Tuple [.Name a pa, .Name b pb] kt pt) it body [] env) R s₂) E s₁) E { s with heap := s.heap.push (sliceObj (.int 1 u) .none) } := by
  refine slice_listK (k := 1) (F.keep _ _ hwl) hz (fun sl h6 q6 hsl k6 => ?_) hs ht
  refine iter_listK hsl (fun I h7 q7 hI k7 => ?_)
  have hvs : (vs.toList.drop 1).toArray = vs'.toArray := by rw [hus]; rfl
  have hvl : vs'.length = ws.length := hWs.length
  rw [hvs] at hsl
  have hIo := k7 _ _ hsl
  have hlI : @Ne Nat sl I := ne_of_none hsl q7
  have k57 : ∀ b o, s.heap.get? b = some o → h7.get? b = some o := fun b o e => k7 b o (k6 b o e)
  have F7 := fr_all F k57
  have q7' : s.heap.get? I = none := by
    cases q : s.heap.get? I with
    | none => rfl
    | some o => exact absurd (k6 _ _ q) (by dsimp only at q7; rw [q7]; exact fun e => nomatch e)
  have fresh : ∀ x, s.heap.get? x = none → @Ne Nat x env.locals ∧ g.get? x = none := fun x q => by
    obtain ⟨o', es, ep, eL, _⟩ := F.ns
    refine ⟨fun r => ?_, ?_⟩
    · have r' : x = env.locals := r
      rw [r', eL] at q; cases q
    · cases r : g.get? x with
      | none => rfl
      | some y => rw [F.keep _ _ r] at q; cases q
  have hSL := (fresh sl q6).1
  have hIL := (fresh I q7').1
  have hgI := (fresh I q7').2
  refine for_list (l := sl) (items := vs'.toArray) (Inv := fun j m h => Inv j m h) hh hI ⟨_, hIo, rfl, _, rfl⟩ hgI hIL hlI F7 B ?stab ?h0 ?turn ?done
  case stab =>
    intro j m h h' hi hF hit k
    exact stab j m h h' (fun x => x = I) hi hF (fun x e => by obtain ⟨o, e1, e2, -⟩ := hit; exact e ▸ ⟨q7', o, e1, e2⟩) (fun b o n1 n2 e => k b o n1 n2 e)
  case h0 =>
    exact stab 0 m s.heap h7 (fun _ => False) h0 F (fun x e => e.elim) (fun b o _ _ e => k57 b o e)
  case turn =>
    intro j v m₁ h gs tk oI oL hx hF hi hB hoI hoL
    have hx' : vs'[j]? = some v := by simpa using hx
    obtain ⟨T, r, t, tt, rs, nr, row, rfl, hw, hT, hR, hS⟩ := hWs.at hx'
    have hjl : j < ws.length := by
      obtain ⟨q, -⟩ := List.getElem?_eq_some_iff.mp hw; exact q
    refine pair_store (m := m₁) hh (hF.keep _ _ hT) hF.ns ha hb hp (fun h1 tk1 hn1 k1 => ?_)
    have F1 := setSlot hF hn1 k1
    refine turn j t tt r rs nr row m₁ h1 gs tk1 I sl oI oL hjl hw hR hS F1 (stab j m₁ h h1 (fun _ => False) hi hF (fun x e => e.elim) fun b o n1 _ e => k1 b o n1 e) hB q7' q6 ?_
    simp only [News, List.forall_mem_cons, List.not_mem_nil, false_imp_iff, implies_true, and_true]
    exact ⟨⟨k1 _ _ hIL hoI, fresh _ q7'⟩, k1 _ _ hSL hoL, fresh _ q6⟩
  case done =>
    intro h' gs' tk' m' hF hi hB
    rw [show vs'.toArray.size = ws.length by simpa using hvl] at hi
    exact done h' gs' tk' m' hF hi hB
noncomputable def stepL (width : Int) (st : List Str × Str) (t : Str) : List Str × Str := if width < (st.2.length : Int) + 1 + t.length then (st.1 ++ [st.2], (("" : Str) ++ " ") ++ t) else (st.1, (st.2 ++ " ") ++ t)
noncomputable def runL (width : Int) (t0 : Str) (ts : List Str) : List Str × Str := ts.foldl (stepL width) (([] : List Str), t0)
noncomputable def linesL (width : Int) (t0 : Str) (ts : List Str) : List Str := (runL width t0 ts).1 ++ [(runL width t0 ts).2]
theorem runL_snoc (width : Int) (t0 : Str) (ts : List Str) (t : Str) : runL width t0 (ts ++ [t]) = stepL width (runL width t0 ts) t := by
  unfold runL; rw [List.foldl_append]; rfl
theorem stepL_le {width : Int} {st : List Str × Str} {t : Str} {j : Nat} (h1 : st.1.length ≤ j) (h2 : st.2.length ≤ 101 * (j + 1)) (h4 : t.length ≤ 100) :
    (stepL width st t).1.length ≤ j + 1 ∧ (stepL width st t).2.length ≤ 101 * (j + 1 + 1) := by
  unfold stepL
  have e0 : (Str.ofString "").length = 0 := rfl
  have e1 : (Str.ofString " ").length = 1 := rfl
  split
  · refine ⟨by simp; omega, ?_⟩
    rw [Str.length_append, Str.length_append, e0, e1]; omega
  · refine ⟨by dsimp only; omega, ?_⟩
    rw [Str.length_append, Str.length_append, e1]; omega
theorem look_ne2 {x1 x2 y : Str} {v1 v2 w : Option Value} {m : Str → Option Value} (h1 : y ≠ x1) (h2 : y ≠ x2) (e : m y = w) : (if y = x1 then v1 else if y = x2 then v2 else m y) = w := by
  rw [if_neg h1, if_neg h2]; exact e
end
example : True := by
  k_with "call builtin:list.append" =>
    (k_here; (with_reducible show wpAny _ _ (call (Value.builtin "list.append") [Value.ref _, _]) _ _ _); k_dflt (refine' append_K ?qk1z ?qk2z ?qk3z ?_ ?qzz; (case qk1z => k_asm); (case qk2z => k_asm); (case qk3z => k_upd); (case qzz => exact Small.line (by assumption)); k_whole); intro _ _ _; (try k_sweep))
  trivial
section
example : True := by
  k_with "binaryOp FloorDiv int int" =>
    show Hold _
  k_with "subscriptTail Name Name ref int" =>
    show Hold _
  k_with "subscriptTail Name Slice ref ref" =>
    show Hold _
  k_with "compareOp NotEq ref ref" =>
    show Hold _
  trivial

theorem for_rangeP {PB : Array GenState → Prop} {w : World} {A : Around} {s : Shared} {R : Result → Shared → Prop} {x : Str} {px : Pos} {body : List Stmt} {env : Env} {I : Addr} {n : Nat} {g : Heap} {m : Str → Option Value} {Inv : Nat → (Str → Option Value) → Heap → Prop}
    (hh : A.handled = none) (hit : s.heap.get? I = some (rngIt 0 n 1)) (hI : g.get? I = none) (hIL : @Ne Nat I env.locals)
    (ha : env.kindOf x = some .local) (hp : (env.scope.kind == .class || (env.scope.kind == .module && env.locals != env.globals)) = false)
    (F : Fr g env.locals s.heap m) (B : PB s.gens)
    (stab : ∀ j m h h', Inv j m h → Fr g env.locals h m → (∀ b o, @Ne Nat b env.locals → @Ne Nat b I → h.get? b = some o → h'.get? b = some o) → Inv j m h')
    (h0 : Inv 0 m s.heap)
    (turn : ∀ j t m₁ h gs tk oI, j < n → Fr g env.locals h (fun y => if y = x then some (.int (j : Int) t) else m₁ y) → Inv j m₁ h → PB gs → h.get? I = some oI →
      wpAny (model PR w) A (execs body env) (fun f s₃ => Hold (f = .next ∧ ∃ h' gs' tk' m', s₃ = ⟨h', gs', s.drawn, tk', s.os⟩ ∧ PB gs' ∧ Fr g env.locals h' m' ∧ Inv (j + 1) m' h' ∧ h'.get? I = some oI))
        (notedBy (model PR w) A env fun e s' => R (.error e) s') ⟨h, gs, s.drawn, tk, s.os⟩)
    (done : ∀ h' gs' tk' m', Fr g env.locals h' m' → Inv n m' h' → PB gs' → R (.ok .next) ⟨h', gs', s.drawn, tk', s.os⟩) :
    codeAny (model PR w) A (.forLoop (.Name x px) (.ref I) body [] env) R s := by
  have hnk : ∀ {h h' : Heap} {m : Str → Option Value}, Fr g env.locals h m → (∀ b o, @Ne Nat b I → h.get? b = some o → h'.get? b = some o) → Fr g env.locals h' m := fun F k =>
    ⟨F.ns.at' fun o e => k _ o hIL.symm e, fun b o e => k b o (fun q => by have q' : b = I := q; rw [q', hI] at e; cases e) (F.keep b o e), F.above⟩
  refine codeAny_forLoop_any (fun k s' => ∃ h gs tk m j, s' = ⟨h, gs, s.drawn, tk, s.os⟩ ∧ PB gs ∧ Fr g env.locals h m ∧ Inv j m h ∧ h.get? I = some (rngIt (0 + j * 1) (n - j) 1) ∧ j ≤ n ∧ k = n - j) ?_ n
    ⟨s.heap, s.gens, s.toks, m, 0, rfl, B, F, h0, by simpa using hit, Nat.zero_le _, rfl⟩
  rintro k s' ⟨h, gs, tk, m, j, rfl, hB, hF, hInv, hit, hj, rfl⟩
  by_cases hlt : j < n
  · refine wpAny_pyNext_range_item (it := I) (x := 0 + j * 1) (left := n - j) (step := 1) hit (by omega) fun h1 hit1 sb => ?_
    have k1 : ∀ b o, @Ne Nat b I → h.get? b = some o → h1.get? b = some o := fun b o hb e => (sb.2 b hb).trans e
    have F1 := hnk hF k1
    have I1 := stab _ _ _ _ hInv hF (fun b o _ hb e => k1 b o hb e)
    dsimp only
    refine wpAny_of_eq rfl ?_
    refine wpAny_assign_Name (wpAny_storeName_local ha F1.ns (fun h2 hn2 hs2 => ?_) hp)
    have k2 : ∀ b o, @Ne Nat b env.locals → h1.get? b = some o → h2.get? b = some o := fun b o hb e => (hs2.2 b hb).trans e
    have F2 : Fr g env.locals h2 (fun y => if y = x then some (.int (j : Int) tk) else m y) := by
      have := setSlot F1 hn2 k2
      rw [show (0 + (j : Int) * 1) = j by omega] at this
      exact this
    have T := turn j tk m h2 gs (tk + 1 + 1) _ hlt F2 (stab _ _ _ _ I1 F1 fun b o hb _ e => k2 b o hb e) hB (k2 _ _ hIL hit1)
    dsimp only at T ⊢
    refine wpAny_mono T (fun f s₃ h₃ => ?_) fun _ _ e => e
    obtain ⟨rfl, h', gs', tk', m', rfl, hB', F', hI', kk⟩ := h₃
    refine ⟨n - (j + 1), om_sub1 hlt, h', gs', tk', m', j + 1, rfl, hB', F', hI', ?_, hlt, rfl⟩
    have e1 : (0 + (j : Int) * 1 + 1) = 0 + ((j + 1 : Nat) : Int) * 1 := by omega
    have e2 : ((n : Int) - j - 1) = n - ((j + 1 : Nat) : Int) := by omega
    rw [← e1, ← e2]; exact kk
  · have hje : j = n := by omega
    subst hje
    refine wpAny_pyNext_range_end (it := I) (x := 0 + j * 1) (left := j - j) (step := 1) hh hit (by omega) fun h1 sb => ?_
    dsimp only
    refine wpAny_execs_nil ?_
    have k1 : ∀ b o, @Ne Nat b I → h.get? b = some o → h1.get? b = some o := fun b o hb e => sb b o hb e
    exact done _ _ _ _ (hnk hF k1) (stab _ _ _ _ hInv hF fun b o _ hb e => k1 b o hb e) hB
example : True := by
  k_with "goX" =>
    repeat' (first
      | ((with_reducible show wpAny _ _ (binaryOp Operator.FloorDiv _ _) _ _ _); show Hold _)
      | ((with_reducible show wpAny _ _ (subscriptTail _ _ (Value.ref _) _) _ _ _); show Hold _)
      | ((with_reducible show wpAny _ _ (compareOp _ (Value.ref _) (Value.ref _)) _ _ _); show Hold _)
      | (k_unfold; (try dsimp only)) | walk1 | (dsimp only; walk1) | fail "no step")
  trivial

theorem word_spec {w : World} {A : Around} {s : Shared} {g : Heap} {p : Program} {loose : List Str} {mg mb : Str → Option Value} {x : Int} {tx ts : Tok} {Q E : Value → Shared → Prop}
    (G : Gd w p loose mg mb g) (st : g.StaysIn s.heap) (hh : A.handled = none) (hu : A.units + 200 < cLine) (hr : A.depth + 4 < recursionLimit) (hB : AllBare s.gens)
    (h : ∀ h' tk T tt R rv n, s.heap.get? T = none → s.heap.get? R = none → h'.get? T = some (tupObj [.str (wordOf x 3).1 tt, .ref R]) → h'.get? R = some (lstObj rv n) → StrsAre rv.toList (wordOf x 3).2 → (∀ b o, s.heap.get? b = some o → h'.get? b = some o) → Q (.ref T) ⟨h', s.gens, s.drawn, tk, s.os⟩) :
    wpAny (model PR w) A (call (.ref 244) [.int x tx, .str "many" ts]) Q E s := by
  refine wpAny_call ?_
  refine' enter (binds := [("x", .int x tx), ("star", .str "many" ts)]) (led := []) G.K G.T st ?hl ?ho ?hcd (om_0 hr) ?hb ?hloc ?_ ?hcell ?hco ?hgen ?hk
  case hl => simp only [List.not_mem_nil, false_imp_iff, implies_true]
  case ho => k_is
  case hcd => k_is
  case hb => exact BindsTo.of_eq rfl
  case hloc => rfl
  case hcell => decide
  case hco => rfl
  case hgen => rfl
  case hk => rfl
  intro g' h₁ kp st' kp₁ F' N' X' T'
  have G' : Gd w p loose mg mb g' := ⟨X', T', G.B.keeps st'⟩
  k_extra "goF"
  rename Fr _ _ _ _ => F0
  rename News _ _ _ _ => N
  rename_i TL _ _ _ _ PL _ _ _ _ _ R _ _ _ _ _ h0 tk0 t1 u1 v1 hRg kR
  have hN1 := N (R, listOf #[] 0) (by k_mem)
  have hN2 := N (PL, _) (by k_mem)
  have hN3 := N (TL, _) (by k_mem)
  obtain ⟨pv, hPv, hPs⟩ : ∃ pv, h0.get? PL = some (lstObj pv 0) ∧ StrsAre pv.toList (piecePart "any") := ⟨_, hN2.1, by repeat constructor⟩
  obtain ⟨tv, hTv, hTs⟩ : ∃ tv, h0.get? TL = some (lstObj tv 0) ∧ StrsAre tv.toList pieceText := ⟨_, hN3.1, by repeat constructor⟩
  have hR0 : h0.get? R = some (lstObj #[] 0) := hN1.1
  replace hN1 : @Ne Nat R s.heap.objs.size ∧ g'.get? R = none := hN1.2
  replace hN2 : @Ne Nat PL s.heap.objs.size ∧ g'.get? PL = none := hN2.2
  replace hN3 : @Ne Nat TL s.heap.objs.size ∧ g'.get? TL = none := hN3.2
  clear N
  refine iter_rangeK hRg (by decide) fun I h2 q2 hI k2 => ?_
  have neI : ∀ {b : Addr} {o : Obj}, h0.get? b = some o → @Ne Nat b I := fun e => ne_of_none e q2
  have F2 := fr_all F0 k2
  have hgI : g'.get? I = none := by
    cases q : g'.get? I with
    | none => rfl
    | some o => exact absurd rfl (neI (F0.keep _ _ q))
  have hIL : @Ne Nat I s.heap.objs.size := by
    obtain ⟨o, es, ep, eL, _⟩ := F0.ns
    exact (neI eL).symm
  have nRI : @Ne Nat R I := neI hR0
  have aRI : Apart R I := nRI
  have nPI := neI hPv
  have nTI := neI hTv
  have nRP : Apart R PL := by
    unfold Apart; intro q; have q' : R = PL := q; subst q'; rw [hR0] at hPv; cases hPv; simp [piecePart] at hPs; cases hPs
  have nRT : Apart R TL := by
    unfold Apart; intro q; have q' : R = TL := q; subst q'; rw [hR0] at hTv; cases hTv; simp [pieceText] at hTs; cases hTs
  refine for_rangeP (PB := fun gs => gs = s.gens) (n := 3)
    (Inv := fun j m h => ∃ tt rv n, m "x" = some (.int x tx) ∧ m "star" = some (.str "many" ts) ∧ m "texts" = some (.ref TL) ∧ m "parts" = some (.ref PL) ∧ m "row" = some (.ref R) ∧ m "text" = some (.str (wordOf x j).1 tt) ∧ h.get? R = some (lstObj rv n) ∧ StrsAre rv.toList (wordOf x j).2 ∧ h.get? PL = some (lstObj pv 0) ∧ h.get? TL = some (lstObj tv 0))
    hh hI hgI hIL rfl rfl F2 rfl ?stab ?h0 ?turn ?done
  case stab =>
    rintro j m h h' ⟨tt, rv, n, a1, a2, a3, a4, a5, a6, a7, a8, a9, a10⟩ F k
    exact ⟨tt, rv, n, a1, a2, a3, a4, a5, a6, k _ _ hN1.1 nRI a7, a8, k _ _ hN2.1 nPI a9, k _ _ hN3.1 nTI a10⟩
  case h0 =>
    exact ⟨_, #[], 0, rfl, rfl, rfl, rfl, rfl, rfl, k2 _ _ hR0, .nil, k2 _ _ hPv, k2 _ _ hTv⟩
  case turn =>
    rintro j t m₁ h gs tk oI hj F hInv hB hoI
    refine hide_Q fun Q' E' hQ' => ?_
    obtain ⟨tt, rv, n, a1, a2, a3, a4, a5, a6, a7, a8, a9, a10⟩ := hInv
    have F1 := fr_knowns [("k", .int (j : Int) t), ("x", .int x tx), ("texts", .ref TL), ("star", .str "many" ts), ("parts", .ref PL), ("row", .ref R), ("text", .str (wordOf x j).1 tt)] F (by
      simp only [List.forall_mem_cons, List.not_mem_nil, false_imp_iff, implies_true, and_true]
      exact ⟨rfl, look_ne (by decide +kernel) a1, look_ne (by decide +kernel) a3, look_ne (by decide +kernel) a2, look_ne (by decide +kernel) a4, look_ne (by decide +kernel) a5, look_ne (by decide +kernel) a6⟩)
    have N1 : News g' s.heap.objs.size h [(R, lstObj rv n), (PL, lstObj pv 0), (TL, lstObj tv 0), (I, oI)] := by
      simp only [News, List.forall_mem_cons, List.not_mem_nil, false_imp_iff, implies_true, and_true]
      exact ⟨⟨a7, hN1⟩, ⟨a9, hN2⟩, ⟨a10, hN3⟩, hoI, hIL, hgI⟩
    clear F F0 F2 hN1 hN2 hN3 nRI nPI nTI hIL hgI hI q2 k2 hRg kR neI hPv hTv hR0
    have hv : (x.fdiv (8 ^ ((j : Int)).toNat)).fmod 8 = ((dig x j : Nat) : Int) := dig_eq x j
    have hp8 : Builtin.divisionGoesByPylong x (8 ^ ((j : Int)).toNat) = false := PyProof.noPylong_small (by
      rw [Int.toNat_natCast]
      obtain rfl | rfl | rfl : j = 0 ∨ j = 1 ∨ j = 2 := om_d3 j hj
      · decide
      · decide
      · decide)
    try dsimp only
    k_extra "goX"
    show wpAny _ _ _ _ _ _
    refine floordiv_int (Int.ne_of_gt (Int.pow_pos (by decide))) ?_ (Or.inl hp8)
    try dsimp only
    walk1
    try dsimp only
    walk1
    try dsimp only
    rw [hv]
    have hd8 := dig_lt x j
    have hl1 := wordOf_len x j
    have hrz : Small rv.size := by
      unfold Small
      have e1 := strsAre_len a8
      have e2 := wordOf_rows x j
      rw [Array.length_toList] at e1
      omega
    have hl2 := pieceText_len (dig x j)
    generalize hd : dig x j = d at hv
    try dsimp only
    k_extra "goX"
    rw [hd] at hl2
    clear hv hp8
    rename Fr _ _ _ _ => F
    rename News _ _ _ _ => N
    obtain ⟨t1, hx1⟩ := strsAre_get hTs (j := d) (by rw [← hd]; exact hd8)
    show wpAny _ _ _ _ _ _
    refine sub_list (N (TL, _) (by k_mem)).1 (by omega) (by omega) (x := .str (pieceText.getD d "") t1) (by rw [Int.toNat_natCast]; exact hx1) ?_ rfl
    try dsimp only
    k_extra "goX"
    · rename_i hc
      rename Fr _ _ _ _ => F
      rename News _ _ _ _ => N
      obtain ⟨t3, hx3⟩ := strsAre_get hPs (j := d) (by rw [← hd]; exact dig_lt x j)
      show wpAny _ _ _ _ _ _
      refine sub_list (N (PL, _) (by k_mem)).1 (by omega) (by omega) (x := .str ((piecePart "any").getD d "") t3) (by rw [Int.toNat_natCast]; exact hx3) ?_ rfl
      try dsimp only
      k_extra "goX"
      rename Fr _ _ _ _ => F
      rename News _ _ _ _ => N
      have hd0 : 0 < d := by omega
      refine hQ' _ _ (show Hold _ from ⟨rfl, _, _, _, _, rfl, hB, F, ⟨_, _, _, rfl, rfl, rfl, rfl, rfl, (by rw [wordOf_succ, hd]; rfl), (N (R, _) (by k_mem)).1, ?_, (N (PL, _) (by k_mem)).1, (N (TL, _) (by k_mem)).1⟩, (N (I, oI) (by k_mem)).1⟩)
      · rw [wordOf_succ, hd]
        unfold addDig
        dsimp only
        rw [if_pos (.inl hd0), Array.toList_push]
        exact strsAre_append a8 (.cons _ _ .nil)
    · rename_i hc
      rename Fr _ _ _ _ => F
      rename News _ _ _ _ => N
      have hd0 : d = 0 := by omega
      show wpAny _ _ _ _ _ _
      refine slice_lastK (N (R, _) (by k_mem)).1 hrz (fun sl h6 q6 hsl k6 => ?_) rfl (fun _ => rfl)
      have F6 := fr_all F k6
      have aRs : Apart R sl := ne_of_none (N (R, lstObj rv n) (by k_mem)).1 q6
      have h8 := strsAre_len a8
      rw [Array.length_toList] at h8
      have hds := strsAre_drop a8 (rv.size - 1)
      have hds' : Hold (StrsAre (rv.toList.drop (rv.size - 1)).toArray.toList ((wordOf x j).2.drop ((wordOf x j).2.length - 1))) := by
        rw [h8] at hds ⊢; exact hds
      clear hds h8
      generalize (rv.toList.drop (rv.size - 1)).toArray = da at hsl hds'
      have N6 := news_new F N q6 hsl k6
      clear F N k6 hsl q6 hl1 hl2
      try dsimp only
      k_extra "goX"
      rename Fr _ _ _ _ => F
      rename News _ _ _ _ => N
      show wpAny _ _ _ _ _ _
      refine ne_strs (ns := (wordOf x j).2.drop ((wordOf x j).2.length - 1)) (ms := [("many" : Str)]) (N (sl, _) (by k_mem)).1 (N (_, listOf #[.str "many" ts] 0) (by k_mem)).1 hds' (.cons _ _ .nil) (fun y m => wordOf_ok x j y (List.mem_of_mem_drop m)) (by decide +kernel) (show A.units + 3 + 64 < cLine from om_u hu (by decide)) ?_
      have hdl := drop_last (l := (wordOf x j).2) "many"
      by_cases hlast : (wordOf x j).2.getLast? = some "many"
      · rw [hdl.mpr hlast]
        simp only [decide_true, Bool.not_true]
        try dsimp only
        k_extra "goX"
        rename Fr _ _ _ _ => F
        rename News _ _ _ _ => N
        refine hQ' _ _ (show Hold _ from ⟨rfl, _, _, _, _, rfl, hB, F, ⟨_, _, _, rfl, rfl, rfl, rfl, rfl, (by rw [wordOf_succ, hd]; rfl), (N (R, _) (by k_mem)).1, ?_, (N (PL, _) (by k_mem)).1, (N (TL, _) (by k_mem)).1⟩, (N (I, oI) (by k_mem)).1⟩)
        · rw [wordOf_succ, hd]
          unfold addDig
          dsimp only
          rw [if_neg (by rintro (q | q); exact absurd q (by omega); exact q hlast)]
          exact a8
      · rw [show decide ((wordOf x j).2.drop ((wordOf x j).2.length - 1) = [("many" : Str)]) = false from decide_eq_false fun q => hlast (hdl.mp q)]
        simp only [Bool.not_false]
        try dsimp only
        k_extra "goX"
        rename Fr _ _ _ _ => F
        rename News _ _ _ _ => N
        obtain ⟨t3, hx3⟩ := strsAre_get hPs (j := d) (by rw [← hd]; exact dig_lt x j)
        show wpAny _ _ _ _ _ _
        refine sub_list (N (PL, _) (by k_mem)).1 (by omega) (by omega) (x := .str ((piecePart "any").getD d "") t3) (by rw [Int.toNat_natCast]; exact hx3) ?_ rfl
        try dsimp only
        k_extra "goX"
        rename Fr _ _ _ _ => F
        rename News _ _ _ _ => N
        refine hQ' _ _ (show Hold _ from ⟨rfl, _, _, _, _, rfl, hB, F, ⟨_, _, _, rfl, rfl, rfl, rfl, rfl, (by rw [wordOf_succ, hd]; rfl), (N (R, _) (by k_mem)).1, ?_, (N (PL, _) (by k_mem)).1, (N (TL, _) (by k_mem)).1⟩, (N (I, oI) (by k_mem)).1⟩)
        · rw [wordOf_succ, hd]
          unfold addDig
          dsimp only
          rw [if_pos (.inr hlast), Array.toList_push]
          exact strsAre_append a8 (.cons _ _ .nil)
  case done =>
    rintro h' gs' tk' m' F ⟨tt, rv, n, a1, a2, a3, a4, a5, a6, a7, a8, a9, a10⟩ hB
    subst hB
    have F1 := fr_knowns [("row", .ref R), ("text", .str (wordOf x 3).1 tt)] F (by
      simp only [List.forall_mem_cons, List.not_mem_nil, false_imp_iff, implies_true, and_true]
      exact ⟨a5, a6⟩)
    have N1 : News g' s.heap.objs.size h' [(R, lstObj rv n)] := by
      simp only [News, List.forall_mem_cons, List.not_mem_nil, false_imp_iff, implies_true, and_true]
      exact ⟨a7, hN1⟩
    clear F F0 F2 hN1 hN2 hN3 nRI nPI nTI hIL hgI hI q2 k2 hRg kR neI hPv hTv hR0
    try dsimp only
    k_extra "goX"
    rename Fr _ _ _ _ => F
    rename News _ _ _ _ => N
    have hT := N _ (List.Mem.head _)
    have hRR := N (R, lstObj rv n) (by k_mem)
    refine h _ _ _ _ _ _ _ ?_ ?_ hT.1 hRR.1 a8 (fun b o e => F.keep _ _ (kp _ _ e (by simp)))
    · cases q : s.heap.get? _ with
      | none => rfl
      | some o => have h3 := hT.2.2; dsimp only at h3; rw [kp _ _ q (by simp)] at h3; cases h3
    · cases q : s.heap.get? R with
      | none => rfl
      | some o => have h3 := hRR.2.2; dsimp only at h3; rw [kp _ _ q (by simp)] at h3; cases h3
end
example : True := by
  k_with_none
  trivial
example : True := by
  k_with "go" =>
    repeat' (first | (k_unfold; (try dsimp only)) | walk1 | (dsimp only; walk1) | fail "no step")
  trivial

example : True := by
  k_with "getMethod ref" =>
    (k_here; k_dflt (refine' method_sub ?qk1z ?qk2z ?qk3z ?qk4z ?qk5z ?qk6z ?qk7z ?qk8z ?_; (case qk1z => k_asm); (case qk2z => k_asm); (case qk3z => k_inst); (case qk4z => k_is); (case qk5z => k_is); (case qk6z => k_is); (case qk7z => kernel_rfl); (case qk8z => k_get); k_whole))
  k_with "getAttr ref" =>
    (k_here; k_dflt (refine' get_sub ?qk1z ?qk2z ?qk3z ?qk4z ?qk5z ?qk6z ?qk7z ?qk8z ?qk9z ?qk10z ?qk11z ?_; (case qk1z => k_asm); (case qk2z => k_asm); (case qk3z => k_inst); (case qk4z => k_is); (case qk5z => k_is); (case qk6z => k_is); (case qk7z => k_is); (case qk8z => k_is); (case qk9z => k_is); (case qk10z => k_get); (case qk11z => k_handed); k_whole))
  k_with "subscriptTail Name Slice ref ref" =>
    (k_here; (with_reducible show wpAny _ _ (subscriptTail _ (PySem.Expr.Slice _ _ none _) (Value.ref _) (Value.ref _)) _ _ _); k_dflt
      (refine' slice_accF ?qFz ?qXz ?qNz ?qmz ?qp1z ?qp2z ?_ ?qzz ?qsz; (case qFz => k_asm); (case qXz => k_asm); (case qNz => k_asm); (case qmz => k_mem); (case qp1z => first | exact .int _ _ | exact .none); (case qp2z => first | exact .int _ _ | exact .none); (case qzz => first | exact Nat.le_trans (by assumption) (by decide) | omega); (case qsz => exact rfl); k_whole); intro _ _ _ _ zlt; k_lt zlt; (try (revert zlt; intro _)); (try k_sweep))
  k_with "setItem ref ref" =>
    (k_here; k_dflt
      (refine' store_accF ?qFz ?qXz ?qNz ?qp1z ?qaz ?qmz ?qUz ?_ ?qzz ?qsz; (case qFz => k_asm); (case qXz => k_asm); (case qNz => k_asm); (case qp1z => first | exact .inl (.int _ _) | exact .inr ⟨.none, rfl⟩); (case qmz => k_mem); (case qUz => k_upd); (case qaz => omega); (case qzz => first | exact Nat.le_trans (by assumption) (by decide) | omega); (case qsz => first | omega | (simp; omega) | simp); k_whole); intro _ _ _; (try k_sweep))
  k_with "setAttr ref" =>
    (k_here; k_dflt
      (refine' set_sub ?qk1z ?qk2z ?qk3z ?qk4z ?qk5z ?qk6z ?qk7z ?qkoz ?qk8z ?qk9z ?qk10z ?qk11z ?qk12z ?qk13z ?_; (case qk1z => k_asm); (case qk2z => k_asm); (case qk3z => k_asm); (case qk4z => k_inst); (case qk5z => exact rfl); (case qk6z => k_is); (case qk7z => k_is); (case qkoz => exact rfl); (case qk8z => k_is); (case qk9z => exact rfl); (case qk10z => k_get); (case qk11z => exact put_acc); (case qk12z => k_upd); (case qk13z => exact Nat.le_of_ble_eq_true rfl); k_whole; intro _ _ _; (try k_sweep)))
  trivial

example : True := by
  k_with "my_room" =>
    first | exact om_u (by assumption) (by decide) | exact om_w (by assumption) (by decide) | omega | (simp only [depth_in1, depth_deeper]; omega)
  k_with "k_parts" =>
    first
      | exact Parts.keeps ‹Parts _ _ _› (fun b o e _ => (Fr.keep ‹Fr _ _ _ _›) b o e)
      | (rw [Array.toList_push]; exact Parts.append (Parts.keeps ‹Parts _ _ _› (fun b o e _ => (Fr.keep ‹Fr _ _ _ _›) b o e)) (.cons (‹News _ _ _ _› _ (by k_mem)).1 .nil))
  k_with "call ref" =>
    (k_here; (with_reducible show wpAny _ _ (call (Value.ref 139) _) _ _ _); k_dflt
      (refine' push_F ?qFz ?qXz ?qTz ?qNz ?qDz ?qUz ?qrz ?qzz ?_; (case qFz => k_asm); (case qXz => k_asm); (case qTz => k_asm); (case qNz => k_asm); (case qUz => intro zt; k_upd); (case qDz => k_mem); (case qrz => k_extra "my_room"); (case qzz => first | assumption | exact Nat.le_trans (by assumption) (by decide) | (simp; omega) | omega); k_whole); intro _ _ _ _ _ zlt; ((replace zlt := allNe_of zlt); (simp only [AllNe, and_true] at zlt); (repeat ((have _ := And.left zlt); (replace zlt := And.right zlt)))); (try (revert zlt; intro _)); (try k_sweep))
  k_with "call ref" =>
    (k_here; (with_reducible show wpAny _ _ (call (Value.ref 192) _) _ _ _); k_dflt
      (refine' pcount_F ?qFz ?qXz ?qTz ?qNz ?qAz ?qrz ?_; (case qFz => k_asm); (case qXz => k_asm); (case qTz => k_asm); (case qNz => k_asm); (case qAz => k_mem); (case qrz => k_extra "my_room"); k_whole); intro _ _ _ _ _; (try k_sweep))
  k_with "call ref" =>
    (k_here; (with_reducible show wpAny _ _ (call (Value.ref 155) _) _ _ _); k_dflt
      (refine' pop_F ?qFz ?qXz ?qTz ?qNz ?qDz ?qUz ?qrz ?qzz ?_; (case qFz => k_asm); (case qXz => k_asm); (case qTz => k_asm); (case qNz => k_asm); (case qUz => intro zk; k_upd); (case qDz => k_mem); (case qrz => k_extra "my_room"); (case qzz => first | assumption | exact Nat.le_trans (by assumption) (by decide) | (simp; omega) | omega); k_whole); intro _ _ _ _ _; (try k_sweep))
  k_with "call ref" =>
    (k_here; (with_reducible show wpAny _ _ (call (Value.ref 147) _) _ _ _); k_dflt
      (refine' popfrom_F ?qFz ?qXz ?qTz ?qNz ?qAz ?qDz ?qez ?qwz ?qUz ?qrz ?qzz ?qiz ?_; (case qFz => k_asm); (case qXz => k_asm); (case qTz => k_asm); (case qNz => k_asm); (case qAz => k_mem); (case qez => first | assumption | apply_assumption); (case qwz => first | assumption | apply_assumption); (case qUz => intro zk; k_upd); (case qDz => k_mem); (case qrz => k_extra "my_room"); (case qzz => first | assumption | exact Nat.le_trans (by assumption) (by decide) | (simp; omega) | omega); (case qiz => first | assumption | (simp; done) | (simp; omega) | omega); k_whole); intro _ _ _ _ _ _ zlt; ((replace zlt := allNe_of zlt); (simp only [AllNe, and_true] at zlt); (repeat ((have _ := And.left zlt); (replace zlt := And.right zlt)))); (try (revert zlt; intro _)); (try k_sweep))
  k_with "call ref" =>
    (k_here; (with_reducible show wpAny _ _ (call (Value.ref 177) [_, _]) _ _ _); k_dflt
      (refine' reset_F ?qFz ?qXz ?qTz ?qNz ?qlz ?qUz ?qU2z ?qDz ?qrz ?qzz ?qnz ?_; (case qFz => k_asm); (case qXz => k_asm); (case qTz => k_asm); (case qNz => k_asm); (case qlz => k_mem); (case qUz => intro zk; k_upd); (case qU2z => intro zk zhs1 ztn1 zti1 zne1; k_upd); (case qDz => k_mem); (case qrz => k_extra "my_room"); (case qzz => first | assumption | exact Nat.le_trans (by assumption) (by decide) | (simp; omega) | omega); (case qnz => first | assumption | (simp; done) | (simp; omega) | omega); k_whole); intro _ _ _ _ _ _ _ _ _; (try k_sweep))
  k_with "call ref" =>
    (k_here; (with_reducible show wpAny _ _ (call (Value.ref 162) _) _ _ _); k_dflt
      (refine' len_F ?qFz ?qGz ?qNz ?qAz ?qDz ?qtrz ?qUz ?qhpz ?qhhz ?qrz ?qBz ?qzz ?qz2z ?_; (case qFz => k_asm); (case qGz => assumption); (case qNz => k_asm); (case qAz => k_mem); (case qDz => k_mem); (case qUz => intro _; k_upd); (case qtrz => assumption); (case qhpz => k_extra "k_parts"); (case qhhz => first | assumption | exact hh); (case qrz => k_extra "my_room"); (case qBz => assumption); (case qzz => first | assumption | exact Nat.le_trans (by assumption) (by decide) | (simp; omega) | omega); (case qz2z => assumption); k_whole); intro _ _ _ _ _ _ _ _ _; (try k_sweep))
  k_with "call ref" =>
    (k_here; (with_reducible show wpAny _ _ (call (Value.ref 169) _) _ _ _); k_dflt
      (refine' str_F ?qFz ?qGz ?qNz ?qAz ?qDz ?qtrz ?qUz ?qhpz ?qhhz ?qrz ?qBz ?qzz ?qz2z ?_; (case qFz => k_asm); (case qGz => assumption); (case qNz => k_asm); (case qAz => k_mem); (case qDz => k_mem); (case qUz => intro _; k_upd); (case qtrz => assumption); (case qhpz => k_extra "k_parts"); (case qhhz => first | assumption | exact hh); (case qrz => k_extra "my_room"); (case qBz => assumption); (case qzz => first | assumption | exact Nat.le_trans (by assumption) (by decide) | (simp; omega) | omega); (case qz2z => assumption); k_whole); intro _ _ _ _ _ _ _ _ _; (try k_sweep))
  k_with "my_drop" =>
    first | (refine' Drop.head ?qaz; (case qaz => k_all)) | (refine' Drop.tail ?qaz ?qbz; (case qaz => k_ne); (case qbz => k_extra "my_drop"))
  k_with "subscriptTail" =>
    (k_here; (with_reducible show wpAny _ _ (subscriptTail _ _ (Value.ref _) (Value.int _ _)) _ _ _); k_dflt
      (refine' item_accF ?qFz ?qXz ?qNz ?qmz ?qzz ?qfz ?qkz ?_ ?qsz; (case qFz => k_asm); (case qXz => k_asm); (case qNz => k_asm); (case qmz => k_mem); (case qkz => first | assumption | apply_assumption); (case qzz => first | exact Nat.le_trans (by assumption) (by decide) | omega); (case qfz => omega); (case qsz => exact rfl); k_whole))
  k_with "assign Tuple" =>
    (k_here; (with_reducible show wpAny _ _ (assign (Expr.Tuple _ _ _) _ (Value.ref _)) _ _ _); k_dflt (refine' unpackN_ ?qFz ?qNz ?qTz ?qk1z ?qk2z ?qk3z ?_; (case qFz => k_asm); (case qNz => k_asm); (case qTz => first | with_reducible assumption | (refine News.isTup (by k_asm) (by k_mem))); (case qk1z => assumption); (case qk2z => exact rfl); (case qk3z => exact rfl)); intro _ _ _; (try k_sweep))
  k_with "call type:str" =>
    (k_here; (with_reducible show wpAny _ _ (call (Value.type "str") [Value.ref _]) _ _ _); k_dflt (refine' kso_call ?qk1z ?qk2z ?qk3z ?qk4z ?qk5z ?_; (case qk1z => (refine units_2 ?_; first | exact om_w (by assumption) (by decide) | omega)); (case qk2z => k_in); (case qk3z => k_inst); (case qk4z => k_is); (case qk5z => k_is); k_whole))
  trivial
example : True := by
  k_with "call ref" =>
    (k_here; (with_reducible show wpAny _ _ (call (Value.ref 177) _) _ _ _); k_dflt
      (refine' reset0_F ?qFz ?qXz ?qTz ?qNz ?qUz ?qU2z ?qAz ?qDz ?qrz ?qzz ?_; (case qFz => k_asm); (case qXz => k_asm); (case qTz => k_asm); (case qNz => k_asm); (case qAz => k_mem); (case qUz => intro zk; k_upd); (case qU2z => intro zk zhs1 ztn1 zti1 zne1; k_upd); (case qDz => k_mem); (case qrz => k_extra "my_room"); (case qzz => first | assumption | exact Nat.le_trans (by assumption) (by decide) | (simp; omega) | omega); k_whole); intro _ _ _ _ _ _ _ _ _; (try k_sweep))
  k_with "call ref" =>
    (k_here; (with_reducible show wpAny _ _ (call (Value.ref 184) _) _ _ _); k_dflt
      (refine' onlyws_F ?qFz ?qGz ?qNz ?qAz ?qDz ?qP1z ?qP2z ?qtrz ?qtr2z ?qUz ?qVz ?qhpz ?qhhz ?quz ?qrz ?qBz ?qzz ?qz2z ?qz3z ?qz4z ?_; (case qFz => k_asm); (case qGz => assumption); (case qNz => k_asm); (case qAz => k_mem); (case qDz => k_mem); (case qP1z => k_mem); (case qP2z => k_mem); (case qUz => intro ztb; k_upd); (case qVz => intro _ ztb1; k_upd); (case qtrz => assumption); (case qtr2z => assumption); (case qhpz => k_extra "k_parts"); (case qhhz => first | assumption | exact hh); (case quz => first | (refine units_d ?_; first | exact om_u (by assumption) (by decide) | omega) | omega); (case qrz => k_extra "my_room"); (case qBz => assumption); (case qzz => first | assumption | exact Nat.le_trans (by assumption) (by decide) | (simp; omega) | omega); (case qz2z => assumption); (case qz3z => assumption); (case qz4z => assumption); k_whole); intro _ _ _ _ _ _ _ _ _ _; (try k_sweep))
  trivial
example : True := by
  k_with "call ref" =>
    (k_here; (with_reducible show wpAny _ _ (call (Value.ref 195) _) _ _ _); k_dflt
      (refine' acc_make_F ?qFz ?qXz ?qTz ?qNz ?qrz ?_; (case qFz => k_asm); (case qXz => k_asm); (case qTz => k_asm); (case qNz => k_asm); (case qrz => k_extra "my_room"); k_whole); intro _ _ _ _ _ _ _ _ _ _ _ zlt1 zlt2; ((replace zlt1 := allNe_of zlt1); (simp only [AllNe, and_true] at zlt1); (repeat ((have _ := And.left zlt1); (replace zlt1 := And.right zlt1)))); ((replace zlt2 := allNe_of zlt2); (simp only [AllNe, and_true] at zlt2); (repeat ((have _ := And.left zlt2); (replace zlt2 := And.right zlt2)))); (try (revert zlt1; intro _)); (try (revert zlt2; intro _)); (try k_sweep))
  k_with "goF" =>
    repeat' (first | ((with_reducible refine wpAny_For ?qhz (hs := ?qhsz)); (case qhsz => (intro _; rfl))) | (k_unfold; (try dsimp only)) | walk1 | (dsimp only; walk1) | fail "no step")
  trivial
example : True := by
  k_with "call builtin:list.append" =>
    (k_here; (with_reducible show wpAny _ _ (call (Value.builtin "list.append") [Value.ref _, _]) _ _ _); k_dflt (refine' append_K ?qk1z ?qk2z ?qk3z ?_ ?qzz; (case qk1z => k_asm); (case qk2z => k_asm); (case qk3z => k_upd); (case qzz => exact Small.line (by assumption)); k_whole); intro _ _ _; (try k_sweep))
  trivial
section
example : True := by
  k_with "subscriptTail Name UnaryOp ref int" =>
    (k_here; (with_reducible show wpAny _ _ (subscriptTail _ _ (Value.ref _) (Value.int (-1) _)) _ _ _); k_dflt (refine' sub_last ?qk1z ?_ ?qk2z; (case qk1z => exact News.get (by k_asm) (by k_mem)); (case qk2z => exact rfl); k_whole))
  k_with "setItem ref int" =>
    (k_here; (with_reducible show wpAny _ _ (PySem.setItem (Value.ref _) (Value.int (-1) _) _) _ _ _); k_dflt (refine' set_lastF ?qFz ?qNz ?qUz ?_; (case qFz => k_asm); (case qNz => k_asm); (case qUz => k_upd); k_whole); intro _ _ _; (try k_sweep))
  trivial

theorem lines_spec {w : World} {A : Around} {s : Shared} {g : Heap} {p : Program} {loose : List Str} {mg mb : Str → Option Value} {wl : Addr} {vs : Array Value} {n : Nat} {width : Int} {tw : Tok} {w₀ : Str × List Str} {ws : List (Str × List Str)} {Q E : Value → Shared → Prop}
    (G : Gd w p loose mg mb g) (st : g.StaysIn s.heap) (hwl : s.heap.get? wl = some (lstObj vs n)) (hW : Words s.heap vs.toList (w₀ :: ws))
    (hh : A.handled = none) (hu : A.units + 400 < cLine) (hr : A.depth + 10 < recursionLimit) (hB : AllBare s.gens) (hz : ws.length ≤ 50) (hpl : ∀ q ∈ w₀ :: ws, q.1.length ≤ 100)
    (h : ∀ h' gs tk D us nu, s.heap.get? D = none → h'.get? D = some (lstObj us nu) → StrsAre us.toList (linesL width w₀.1 (ws.map (·.1))) → AllBare gs → (∀ b o, s.heap.get? b = some o → h'.get? b = some o) → Q (.ref D) ⟨h', gs, s.drawn, tk, s.os⟩) :
    wpAny (model PR w) A (call (.ref 258) [.ref wl, .int width tw]) Q E s := by
  refine wpAny_call ?_
  refine' enter (binds := [("words", .ref wl), ("width", .int width tw)]) (led := []) G.K G.T st ?hl ?ho ?hcd (om_0 hr) ?hb ?hloc ?_ ?hcell ?hco ?hgen ?hk
  case hl => simp only [List.not_mem_nil, false_imp_iff, implies_true]
  case ho => k_is
  case hcd => k_is
  case hb => exact BindsTo.of_eq rfl
  case hloc => rfl
  case hcell => decide
  case hco => rfl
  case hgen => rfl
  case hk => rfl
  intro g' h₁ kp st' kp₁ F' N' X' T'
  have G' : Gd w p loose mg mb g' := ⟨X', T', G.B.keeps st'⟩
  have hWg : Words g' vs.toList (w₀ :: ws) := hW.keeps fun b o e => kp b o e (by simp)
  have hwlg : g'.get? wl = some (lstObj vs n) := kp _ _ hwl (by simp)
  generalize hus : vs.toList = us at hWg
  cases hWg with | cons hT0 hR0 hS0 hWs =>
  rename_i T0 r0 t0 tt0 rs0 nr0 row0 vs'
  have hx0 : vs[(0 : Int).toNat]? = some (.ref T0) := by
    rw [← Array.getElem?_toList, hus]; rfl
  have hvz : vs.size = ws.length + 1 := by
    have e1 := hW.length
    rw [List.length_cons, Array.length_toList] at e1
    exact e1
  k_extra "goF"
  rename Fr _ _ _ _ => F
  rename News _ _ _ _ => N
  refine sub_list (F.keep _ _ hwlg) (Int.le_refl 0) (by decide) hx0 ?_ rfl
  k_extra "goF"
  refine item_tuple (j := 0) (x := .str t0 tt0) ⟨_, F.keep _ _ hT0, rfl, _, rfl⟩ (by decide) (by decide) rfl rfl ?_
  k_extra "goF"
  rename Fr _ _ _ _ => F
  rename News _ _ _ _ => N
  rename_i R h8 _ h9
  have hRn := N (R, listOf #[.str t0 tt0] 0) (by k_mem)
  have hR1 : h9.get? R = some (lstObj (#[].push (.str t0 tt0)) 0) := hRn.1
  have hRL : @Ne Nat R s.heap.objs.size ∧ g'.get? R = none := hRn.2
  refine for_words (Inv := fun j m h => ∃ (pv : Array Value) (last : Str) (tl : Tok) (n : Nat), m "lines" = some (.ref R) ∧ m "width" = some (.int width tw) ∧ h.get? R = some (lstObj (pv.push (.str last tl)) n) ∧ StrsAre pv.toList (runL width t0 ((ws.take j).map (·.1))).1 ∧ last = (runL width t0 ((ws.take j).map (·.1))).2 ∧ pv.size ≤ j ∧ last.length ≤ 101 * (j + 1))
    hh hwlg hus hWs (by omega) rfl rfl rfl F hB ?stab ?h0 ?turn ?done rfl (fun _ => rfl)
  case stab =>
    rintro j m h h' X ⟨pv, last, tl, n, a1, a2, a3, a4, a5, a6, a7⟩ hF hX k
    exact ⟨pv, last, tl, n, a1, a2, k _ _ hRL.1 (fun q => by have := (hX _ q).1; rw [hR1] at this; cases this) a3, a4, a5, a6, a7⟩
  case h0 =>
    exact ⟨#[], t0, tt0, 0, rfl, rfl, hR1, .nil, rfl, Nat.le_refl _, Nat.le_trans (hpl _ (List.Mem.head _)) (by decide)⟩
  case turn =>
    rintro j t tt r rs nr row m₁ h gs tk I sl oI oL hj hw hr hS F1 hInv hB hI hsl hN
    refine hide_Q fun Q' E' hQ' => ?_
    obtain ⟨pv, last, tl, n, a1, a2, a3, a4, a5, a6, a7⟩ := hInv
    have F2 := fr_knowns [("lines", .ref R), ("width", .int width tw)] F1 (by
      simp only [List.forall_mem_cons, List.not_mem_nil, false_imp_iff, implies_true, and_true]
      exact ⟨look_ne2 (by decide +kernel) (by decide +kernel) a1, look_ne2 (by decide +kernel) (by decide +kernel) a2⟩)
    have N2 : News g' s.heap.objs.size h [(R, lstObj (pv.push (.str last tl)) n), (I, oI), (sl, oL)] := by
      intro p hp
      rcases List.mem_cons.mp hp with rfl | hp
      · exact ⟨a3, hRL⟩
      · exact hN p hp
    have htl := hpl _ (List.Mem.tail _ (List.mem_of_getElem? hw))
    have hle := stepL_le (width := width) (st := ((runL width t0 ((ws.take j).map (·.1))).1, last)) (t := t) (j := j) (by rw [← strsAre_len a4, Array.length_toList]; exact a6) a7 htl
    have e0 : (Str.ofString "").length = 0 := rfl
    have e1 : (Str.ofString " ").length = 1 := rfl
    have hap : Small (pv.push (Value.str last tl)).size := by unfold Small; rw [Array.size_push]; omega
    have n1 : Apart R I := ne_of_none hR1 hI
    have n2 : Apart R sl := ne_of_none hR1 hsl
    clear F F1 N hN hRn hRL a3 hT0 hR0 hS0 hx0 a1 a2
    dsimp only at htl
    k_extra "go"
    · rename Fr _ _ _ _ => F
      rename News _ _ _ _ => N
      have hst : stepL width (runL width t0 ((ws.take j).map (·.1))) t = ((runL width t0 ((ws.take j).map (·.1))).1 ++ [last], (("" : Str) ++ " ") ++ t) := by
        unfold stepL; rw [← a5, if_pos (by omega)]
      rw [show ((runL width t0 ((ws.take j).map (·.1))).1, last) = runL width t0 ((ws.take j).map (·.1)) by rw [a5], hst] at hle
      have hrl : runL width t0 ((ws.take (j + 1)).map (·.1)) = ((runL width t0 ((ws.take j).map (·.1))).1 ++ [last], (("" : Str) ++ " ") ++ t) := by
        rw [List.take_add_one, hw, ← hst, ← runL_snoc]
        show runL width t0 (List.map _ (_ ++ [(t, row)])) = _
        rw [List.map_append]; rfl
      refine hQ' _ _ (show Hold _ from ⟨rfl, _, _, _, _, rfl, hB, F, ⟨pv.push (.str last tl), _, _, _, rfl, rfl, (N (R, _) (by k_mem)).1, ?_, ?_, ?_, hle.2⟩, (N (I, oI) (by k_mem)).1, (N (sl, oL) (by k_mem)).1⟩)
      · rw [hrl, Array.toList_push]; exact strsAre_append a4 (.cons _ _ .nil)
      · rw [hrl]
      · rw [Array.size_push]; omega
    · rename Fr _ _ _ _ => F
      rename News _ _ _ _ => N
      have hst : stepL width (runL width t0 ((ws.take j).map (·.1))) t = ((runL width t0 ((ws.take j).map (·.1))).1, (last ++ " ") ++ t) := by
        unfold stepL; rw [← a5, if_neg (by omega)]
      rw [show ((runL width t0 ((ws.take j).map (·.1))).1, last) = runL width t0 ((ws.take j).map (·.1)) by rw [a5], hst] at hle
      have hrl : runL width t0 ((ws.take (j + 1)).map (·.1)) = ((runL width t0 ((ws.take j).map (·.1))).1, (last ++ " ") ++ t) := by
        rw [List.take_add_one, hw, ← hst, ← runL_snoc]
        show runL width t0 (List.map _ (_ ++ [(t, row)])) = _
        rw [List.map_append]; rfl
      refine hQ' _ _ (show Hold _ from ⟨rfl, _, _, _, _, rfl, hB, F, ⟨pv, _, _, _, rfl, rfl, (N (R, _) (by k_mem)).1, ?_, ?_, ?_, hle.2⟩, (N (I, oI) (by k_mem)).1, (N (sl, oL) (by k_mem)).1⟩)
      · rw [hrl]; exact a4
      · rw [hrl]
      · omega
  case done =>
    rintro h' gs' tk' m' F2 ⟨pv, last, tl, n, a1, a2, a3, a4, a5, a6, a7⟩ hB
    have F3 := fr_knowns [("lines", .ref R)] F2 (by
      simp only [List.forall_mem_cons, List.not_mem_nil, false_imp_iff, implies_true, and_true]
      exact a1)
    rw [List.take_length] at a4 a5
    clear F F2 N hRn
    dsimp only
    k_extra "go"
    refine h _ _ _ _ _ _ ?_ a3 ?_ hB (fun b o e => F3.keep _ _ (kp _ _ e (by simp)))
    · cases q : s.heap.get? R with
      | none => rfl
      | some o => have := hRL.2; rw [kp _ _ q (by simp)] at this; cases this
    · unfold linesL; rw [Array.toList_push, ← a5]; exact strsAre_append a4 (.cons _ _ .nil)
end
example : True := by
  k_with_none
  trivial
example : True := by
  k_with "go" =>
    repeat' (first | (k_unfold; (try dsimp only)) | walk1 | (dsimp only; walk1) | fail "no step")
  trivial

example : True := by
  k_with "getMethod ref" =>
    (k_here; k_dflt (refine' method_sub ?qk1z ?qk2z ?qk3z ?qk4z ?qk5z ?qk6z ?qk7z ?qk8z ?_; (case qk1z => k_asm); (case qk2z => k_asm); (case qk3z => k_inst); (case qk4z => k_is); (case qk5z => k_is); (case qk6z => k_is); (case qk7z => kernel_rfl); (case qk8z => k_get); k_whole))
  k_with "getAttr ref" =>
    (k_here; k_dflt (refine' get_sub ?qk1z ?qk2z ?qk3z ?qk4z ?qk5z ?qk6z ?qk7z ?qk8z ?qk9z ?qk10z ?qk11z ?_; (case qk1z => k_asm); (case qk2z => k_asm); (case qk3z => k_inst); (case qk4z => k_is); (case qk5z => k_is); (case qk6z => k_is); (case qk7z => k_is); (case qk8z => k_is); (case qk9z => k_is); (case qk10z => k_get); (case qk11z => k_handed); k_whole))
  k_with "subscriptTail Name Slice ref ref" =>
    (k_here; (with_reducible show wpAny _ _ (subscriptTail _ (PySem.Expr.Slice _ _ none _) (Value.ref _) (Value.ref _)) _ _ _); k_dflt
      (refine' slice_accF ?qFz ?qXz ?qNz ?qmz ?qp1z ?qp2z ?_ ?qzz ?qsz; (case qFz => k_asm); (case qXz => k_asm); (case qNz => k_asm); (case qmz => k_mem); (case qp1z => first | exact .int _ _ | exact .none); (case qp2z => first | exact .int _ _ | exact .none); (case qzz => first | exact Nat.le_trans (by assumption) (by decide) | omega); (case qsz => exact rfl); k_whole); intro _ _ _ _ zlt; k_lt zlt; (try (revert zlt; intro _)); (try k_sweep))
  k_with "setItem ref ref" =>
    (k_here; k_dflt
      (refine' store_accF ?qFz ?qXz ?qNz ?qp1z ?qaz ?qmz ?qUz ?_ ?qzz ?qsz; (case qFz => k_asm); (case qXz => k_asm); (case qNz => k_asm); (case qp1z => first | exact .inl (.int _ _) | exact .inr ⟨.none, rfl⟩); (case qmz => k_mem); (case qUz => k_upd); (case qaz => omega); (case qzz => first | exact Nat.le_trans (by assumption) (by decide) | omega); (case qsz => first | omega | (simp; omega) | simp); k_whole); intro _ _ _; (try k_sweep))
  k_with "setAttr ref" =>
    (k_here; k_dflt
      (refine' set_sub ?qk1z ?qk2z ?qk3z ?qk4z ?qk5z ?qk6z ?qk7z ?qkoz ?qk8z ?qk9z ?qk10z ?qk11z ?qk12z ?qk13z ?_; (case qk1z => k_asm); (case qk2z => k_asm); (case qk3z => k_asm); (case qk4z => k_inst); (case qk5z => exact rfl); (case qk6z => k_is); (case qk7z => k_is); (case qkoz => exact rfl); (case qk8z => k_is); (case qk9z => exact rfl); (case qk10z => k_get); (case qk11z => exact put_acc); (case qk12z => k_upd); (case qk13z => exact Nat.le_of_ble_eq_true rfl); k_whole; intro _ _ _; (try k_sweep)))
  trivial

example : True := by
  k_with "my_room" =>
    first | exact om_u (by assumption) (by decide) | exact om_w (by assumption) (by decide) | omega | (simp only [depth_in1, depth_deeper]; omega)
  k_with "k_parts" =>
    first
      | exact Parts.keeps ‹Parts _ _ _› (fun b o e _ => (Fr.keep ‹Fr _ _ _ _›) b o e)
      | (rw [Array.toList_push]; exact Parts.append (Parts.keeps ‹Parts _ _ _› (fun b o e _ => (Fr.keep ‹Fr _ _ _ _›) b o e)) (.cons (‹News _ _ _ _› _ (by k_mem)).1 .nil))
  k_with "call ref" =>
    (k_here; (with_reducible show wpAny _ _ (call (Value.ref 139) _) _ _ _); k_dflt
      (refine' push_F ?qFz ?qXz ?qTz ?qNz ?qDz ?qUz ?qrz ?qzz ?_; (case qFz => k_asm); (case qXz => k_asm); (case qTz => k_asm); (case qNz => k_asm); (case qUz => intro zt; k_upd); (case qDz => k_mem); (case qrz => k_extra "my_room"); (case qzz => first | assumption | exact Nat.le_trans (by assumption) (by decide) | (simp; omega) | omega); k_whole); intro _ _ _ _ _ zlt; ((replace zlt := allNe_of zlt); (simp only [AllNe, and_true] at zlt); (repeat ((have _ := And.left zlt); (replace zlt := And.right zlt)))); (try (revert zlt; intro _)); (try k_sweep))
  k_with "call ref" =>
    (k_here; (with_reducible show wpAny _ _ (call (Value.ref 192) _) _ _ _); k_dflt
      (refine' pcount_F ?qFz ?qXz ?qTz ?qNz ?qAz ?qrz ?_; (case qFz => k_asm); (case qXz => k_asm); (case qTz => k_asm); (case qNz => k_asm); (case qAz => k_mem); (case qrz => k_extra "my_room"); k_whole); intro _ _ _ _ _; (try k_sweep))
  k_with "call ref" =>
    (k_here; (with_reducible show wpAny _ _ (call (Value.ref 155) _) _ _ _); k_dflt
      (refine' pop_F ?qFz ?qXz ?qTz ?qNz ?qDz ?qUz ?qrz ?qzz ?_; (case qFz => k_asm); (case qXz => k_asm); (case qTz => k_asm); (case qNz => k_asm); (case qUz => intro zk; k_upd); (case qDz => k_mem); (case qrz => k_extra "my_room"); (case qzz => first | assumption | exact Nat.le_trans (by assumption) (by decide) | (simp; omega) | omega); k_whole); intro _ _ _ _ _; (try k_sweep))
  k_with "call ref" =>
    (k_here; (with_reducible show wpAny _ _ (call (Value.ref 147) _) _ _ _); k_dflt
      (refine' popfrom_F ?qFz ?qXz ?qTz ?qNz ?qAz ?qDz ?qez ?qwz ?qUz ?qrz ?qzz ?qiz ?_; (case qFz => k_asm); (case qXz => k_asm); (case qTz => k_asm); (case qNz => k_asm); (case qAz => k_mem); (case qez => first | assumption | apply_assumption); (case qwz => first | assumption | apply_assumption); (case qUz => intro zk; k_upd); (case qDz => k_mem); (case qrz => k_extra "my_room"); (case qzz => first | assumption | exact Nat.le_trans (by assumption) (by decide) | (simp; omega) | omega); (case qiz => first | assumption | (simp; done) | (simp; omega) | omega); k_whole); intro _ _ _ _ _ _ zlt; ((replace zlt := allNe_of zlt); (simp only [AllNe, and_true] at zlt); (repeat ((have _ := And.left zlt); (replace zlt := And.right zlt)))); (try (revert zlt; intro _)); (try k_sweep))
  k_with "call ref" =>
    (k_here; (with_reducible show wpAny _ _ (call (Value.ref 177) [_, _]) _ _ _); k_dflt
      (refine' reset_F ?qFz ?qXz ?qTz ?qNz ?qlz ?qUz ?qU2z ?qDz ?qrz ?qzz ?qnz ?_; (case qFz => k_asm); (case qXz => k_asm); (case qTz => k_asm); (case qNz => k_asm); (case qlz => k_mem); (case qUz => intro zk; k_upd); (case qU2z => intro zk zhs1 ztn1 zti1 zne1; k_upd); (case qDz => k_mem); (case qrz => k_extra "my_room"); (case qzz => first | assumption | exact Nat.le_trans (by assumption) (by decide) | (simp; omega) | omega); (case qnz => first | assumption | (simp; done) | (simp; omega) | omega); k_whole); intro _ _ _ _ _ _ _ _ _; (try k_sweep))
  k_with "call ref" =>
    (k_here; (with_reducible show wpAny _ _ (call (Value.ref 162) _) _ _ _); k_dflt
      (refine' len_F ?qFz ?qGz ?qNz ?qAz ?qDz ?qtrz ?qUz ?qhpz ?qhhz ?qrz ?qBz ?qzz ?qz2z ?_; (case qFz => k_asm); (case qGz => assumption); (case qNz => k_asm); (case qAz => k_mem); (case qDz => k_mem); (case qUz => intro _; k_upd); (case qtrz => assumption); (case qhpz => k_extra "k_parts"); (case qhhz => first | assumption | exact hh); (case qrz => k_extra "my_room"); (case qBz => assumption); (case qzz => first | assumption | exact Nat.le_trans (by assumption) (by decide) | (simp; omega) | omega); (case qz2z => assumption); k_whole); intro _ _ _ _ _ _ _ _ _; (try k_sweep))
  k_with "call ref" =>
    (k_here; (with_reducible show wpAny _ _ (call (Value.ref 169) _) _ _ _); k_dflt
      (refine' str_F ?qFz ?qGz ?qNz ?qAz ?qDz ?qtrz ?qUz ?qhpz ?qhhz ?qrz ?qBz ?qzz ?qz2z ?_; (case qFz => k_asm); (case qGz => assumption); (case qNz => k_asm); (case qAz => k_mem); (case qDz => k_mem); (case qUz => intro _; k_upd); (case qtrz => assumption); (case qhpz => k_extra "k_parts"); (case qhhz => first | assumption | exact hh); (case qrz => k_extra "my_room"); (case qBz => assumption); (case qzz => first | assumption | exact Nat.le_trans (by assumption) (by decide) | (simp; omega) | omega); (case qz2z => assumption); k_whole); intro _ _ _ _ _ _ _ _ _; (try k_sweep))
  k_with "my_drop" =>
    first | (refine' Drop.head ?qaz; (case qaz => k_all)) | (refine' Drop.tail ?qaz ?qbz; (case qaz => k_ne); (case qbz => k_extra "my_drop"))
  k_with "subscriptTail" =>
    (k_here; (with_reducible show wpAny _ _ (subscriptTail _ _ (Value.ref _) (Value.int _ _)) _ _ _); k_dflt
      (refine' item_accF ?qFz ?qXz ?qNz ?qmz ?qzz ?qfz ?qkz ?_ ?qsz; (case qFz => k_asm); (case qXz => k_asm); (case qNz => k_asm); (case qmz => k_mem); (case qkz => first | assumption | apply_assumption); (case qzz => first | exact Nat.le_trans (by assumption) (by decide) | omega); (case qfz => omega); (case qsz => exact rfl); k_whole))
  k_with "assign Tuple" =>
    (k_here; (with_reducible show wpAny _ _ (assign (Expr.Tuple _ _ _) _ (Value.ref _)) _ _ _); k_dflt (refine' unpackN_ ?qFz ?qNz ?qTz ?qk1z ?qk2z ?qk3z ?_; (case qFz => k_asm); (case qNz => k_asm); (case qTz => first | with_reducible assumption | (refine News.isTup (by k_asm) (by k_mem))); (case qk1z => assumption); (case qk2z => exact rfl); (case qk3z => exact rfl)); intro _ _ _; (try k_sweep))
  k_with "call type:str" =>
    (k_here; (with_reducible show wpAny _ _ (call (Value.type "str") [Value.ref _]) _ _ _); k_dflt (refine' kso_call ?qk1z ?qk2z ?qk3z ?qk4z ?qk5z ?_; (case qk1z => (refine units_2 ?_; first | exact om_w (by assumption) (by decide) | omega)); (case qk2z => k_in); (case qk3z => k_inst); (case qk4z => k_is); (case qk5z => k_is); k_whole))
  trivial
example : True := by
  k_with "call ref" =>
    (k_here; (with_reducible show wpAny _ _ (call (Value.ref 177) _) _ _ _); k_dflt
      (refine' reset0_F ?qFz ?qXz ?qTz ?qNz ?qUz ?qU2z ?qAz ?qDz ?qrz ?qzz ?_; (case qFz => k_asm); (case qXz => k_asm); (case qTz => k_asm); (case qNz => k_asm); (case qAz => k_mem); (case qUz => intro zk; k_upd); (case qU2z => intro zk zhs1 ztn1 zti1 zne1; k_upd); (case qDz => k_mem); (case qrz => k_extra "my_room"); (case qzz => first | assumption | exact Nat.le_trans (by assumption) (by decide) | (simp; omega) | omega); k_whole); intro _ _ _ _ _ _ _ _ _; (try k_sweep))
  k_with "call ref" =>
    (k_here; (with_reducible show wpAny _ _ (call (Value.ref 184) _) _ _ _); k_dflt
      (refine' onlyws_F ?qFz ?qGz ?qNz ?qAz ?qDz ?qP1z ?qP2z ?qtrz ?qtr2z ?qUz ?qVz ?qhpz ?qhhz ?quz ?qrz ?qBz ?qzz ?qz2z ?qz3z ?qz4z ?_; (case qFz => k_asm); (case qGz => assumption); (case qNz => k_asm); (case qAz => k_mem); (case qDz => k_mem); (case qP1z => k_mem); (case qP2z => k_mem); (case qUz => intro ztb; k_upd); (case qVz => intro _ ztb1; k_upd); (case qtrz => assumption); (case qtr2z => assumption); (case qhpz => k_extra "k_parts"); (case qhhz => first | assumption | exact hh); (case quz => first | (refine units_d ?_; first | exact om_u (by assumption) (by decide) | omega) | omega); (case qrz => k_extra "my_room"); (case qBz => assumption); (case qzz => first | assumption | exact Nat.le_trans (by assumption) (by decide) | (simp; omega) | omega); (case qz2z => assumption); (case qz3z => assumption); (case qz4z => assumption); k_whole); intro _ _ _ _ _ _ _ _ _ _; (try k_sweep))
  trivial
example : True := by
  k_with "call ref" =>
    (k_here; (with_reducible show wpAny _ _ (call (Value.ref 195) _) _ _ _); k_dflt
      (refine' acc_make_F ?qFz ?qXz ?qTz ?qNz ?qrz ?_; (case qFz => k_asm); (case qXz => k_asm); (case qTz => k_asm); (case qNz => k_asm); (case qrz => k_extra "my_room"); k_whole); intro _ _ _ _ _ _ _ _ _ _ _ zlt1 zlt2; ((replace zlt1 := allNe_of zlt1); (simp only [AllNe, and_true] at zlt1); (repeat ((have _ := And.left zlt1); (replace zlt1 := And.right zlt1)))); ((replace zlt2 := allNe_of zlt2); (simp only [AllNe, and_true] at zlt2); (repeat ((have _ := And.left zlt2); (replace zlt2 := And.right zlt2)))); (try (revert zlt1; intro _)); (try (revert zlt2; intro _)); (try k_sweep))
  k_with "goF" =>
    repeat' (first | ((with_reducible refine wpAny_For ?qhz (hs := ?qhsz)); (case qhsz => (intro _; rfl))) | (k_unfold; (try dsimp only)) | walk1 | (dsimp only; walk1) | fail "no step")
  trivial
example : True := by
  k_with "call builtin:list.append" =>
    (k_here; (with_reducible show wpAny _ _ (call (Value.builtin "list.append") [Value.ref _, _]) _ _ _); k_dflt (refine' append_K ?qk1z ?qk2z ?qk3z ?_ ?qzz; (case qk1z => k_asm); (case qk2z => k_asm); (case qk3z => k_upd); (case qzz => exact Small.line (by assumption)); k_whole); intro _ _ _; (try k_sweep))
  trivial
section
theorem add_listK {w : World} {A : Around} {E : Value → Shared → Prop} {s : Shared} {a b : Addr} {xs ys : Array Value} {n k : Nat} {Q : Value → Shared → Prop} (ha : s.heap.get? a = some (lstObj xs n)) (hb : s.heap.get? b = some (lstObj ys k)) (hz : xs.size + ys.size ≤ sizeLine)
    (h : ∀ D h', s.heap.get? D = none → h'.get? D = some (lstObj (xs ++ ys) 0) → (∀ b o, s.heap.get? b = some o → h'.get? b = some o) → Q (.ref D) { s with heap := h' }) : wpAny (model PR w) A (binaryOp .Add (.ref a) (.ref b)) Q E s := by
  refine P.add_list (items := xs) (n := n) (items2 := ys) (n2 := k) ha hb (h _ _ ?_ (Heap.get?_push_size _ rfl) fun b o e => Heap.get?_push_of_some _ e) hz
  cases q : s.heap.get? s.heap.objs.size with
  | none => rfl
  | some o => exact absurd (Heap.lt_size q) (Nat.lt_irrefl _)
noncomputable def partsL (row0 : List Str) (rows : List (List Str)) : List Str := rows.foldl (fun r p => (r ++ [("\\ " : Str)]) ++ p) row0
theorem partsL_snoc (row0 : List Str) (rows : List (List Str)) (p : List Str) : partsL row0 (rows ++ [p]) = (partsL row0 rows ++ [("\\ " : Str)]) ++ p := by
  unfold partsL; rw [List.foldl_append]; rfl
theorem parts_spec {w : World} {A : Around} {s : Shared} {g : Heap} {p : Program} {loose : List Str} {mg mb : Str → Option Value} {wl : Addr} {vs : Array Value} {n : Nat} {w₀ : Str × List Str} {ws : List (Str × List Str)} {Q E : Value → Shared → Prop}
    (G : Gd w p loose mg mb g) (st : g.StaysIn s.heap) (hwl : s.heap.get? wl = some (lstObj vs n)) (hW : Words s.heap vs.toList (w₀ :: ws))
    (hh : A.handled = none) (hu : A.units + 400 < cLine) (hr : A.depth + 10 < recursionLimit) (hB : AllBare s.gens) (hz : ws.length ≤ 50) (hpl : ∀ q ∈ w₀ :: ws, q.2.length ≤ 3)
    (h : ∀ h' gs tk D us nu, s.heap.get? D = none → h'.get? D = some (lstObj us nu) → StrsAre us.toList (partsL w₀.2 (ws.map (·.2))) → AllBare gs → (∀ b o, s.heap.get? b = some o → h'.get? b = some o) → Q (.ref D) ⟨h', gs, s.drawn, tk, s.os⟩) :
    wpAny (model PR w) A (call (.ref 265) [.ref wl]) Q E s := by
  refine wpAny_call ?_
  refine' enter (binds := [("words", .ref wl)]) (led := []) G.K G.T st ?hl ?ho ?hcd (om_0 hr) ?hb ?hloc ?_ ?hcell ?hco ?hgen ?hk
  case hl => simp only [List.not_mem_nil, false_imp_iff, implies_true]
  case ho => k_is
  case hcd => k_is
  case hb => exact BindsTo.of_eq rfl
  case hloc => rfl
  case hcell => decide
  case hco => rfl
  case hgen => rfl
  case hk => rfl
  intro g' h₁ kp st' kp₁ F' N' X' T'
  have G' : Gd w p loose mg mb g' := ⟨X', T', G.B.keeps st'⟩
  have hWg : Words g' vs.toList (w₀ :: ws) := hW.keeps fun b o e => kp b o e (by simp)
  have hwlg : g'.get? wl = some (lstObj vs n) := kp _ _ hwl (by simp)
  generalize hus : vs.toList = us at hWg
  cases hWg with | cons hT0 hR0 hS0 hWs =>
  rename_i T0 r0 t0 tt0 rs0 nr0 row0 vs'
  have hx0 : vs[(0 : Int).toNat]? = some (.ref T0) := by
    rw [← Array.getElem?_toList, hus]; rfl
  have hvz : vs.size = ws.length + 1 := by
    have e1 := hW.length
    rw [List.length_cons, Array.length_toList] at e1
    exact e1
  k_extra "goF"
  rename Fr _ _ _ _ => F
  rename News _ _ _ _ => N
  refine sub_list (F.keep _ _ hwlg) (Int.le_refl 0) (by decide) hx0 ?_ rfl
  k_extra "goF"
  refine item_tuple (j := 1) (x := .ref r0) ⟨_, F.keep _ _ hT0, rfl, _, rfl⟩ (by decide) (by decide) rfl rfl ?_
  k_extra "goF"
  rename Fr _ _ _ _ => F
  rename News _ _ _ _ => N
  refine' list_copyK ?k1 ?k2 ?k3 ?_ ?z
  case k1 => exact F
  case k2 => exact N
  case k3 => exact ⟨_, F.keep _ _ hR0, rfl, _, rfl⟩
  case z =>
    have e1 := strsAre_len hS0
    have e2 := hpl _ (List.Mem.head _)
    rw [Array.length_toList] at e1
    dsimp only at e2
    rw [sizeLine_eq]; omega
  intro R c h2 F2 N2 lt2
  clear F N
  k_extra "goF"
  rename Fr _ _ _ _ => F
  rename News _ _ _ _ => N
  rename_i h9
  have hRn := N (R, listOf rs0 c) (by k_mem)
  have hR1 : h9.get? R = some (lstObj rs0 c) := hRn.1
  have hRL : @Ne Nat R s.heap.objs.size ∧ g'.get? R = none := hRn.2
  refine for_words (Inv := fun j m h => ∃ (D : Addr) (rv : Array Value) (n : Nat), m "row" = some (.ref D) ∧ h.get? D = some (lstObj rv n) ∧ StrsAre rv.toList (partsL row0 ((ws.take j).map (·.2))) ∧ (@Ne Nat D s.heap.objs.size ∧ g'.get? D = none) ∧ rv.size ≤ 4 * (j + 1))
    hh hwlg hus hWs (by omega) rfl rfl rfl F hB ?stab ?h0 ?turn ?done rfl (fun _ => rfl)
  case stab =>
    rintro j m h h' X ⟨D, rv, n, a1, a3, a4, a5, a6⟩ hF hX k
    exact ⟨D, rv, n, a1, k _ _ a5.1 (fun q => by obtain ⟨-, o, e1, e2⟩ := hX _ q; rw [a3] at e1; cases e1; have c' : Value.type "list" = Value.type "list_iterator" := e2; injection c' with c''; exact absurd c'' (by decide)) a3, a4, a5, a6⟩
  case h0 =>
    refine ⟨R, rs0, c, rfl, hR1, hS0, hRL, ?_⟩
    have e1 := strsAre_len hS0
    have e2 := hpl _ (List.Mem.head _)
    rw [Array.length_toList] at e1
    dsimp only at e2
    omega
  case turn =>
    rintro j t tt r rs nr row m₁ h gs tk I sl oI oL hj hw hr hS F1 hInv hB hI hsl hN
    refine hide_Q fun Q' E' hQ' => ?_
    obtain ⟨D, rv, n, a1, a3, a4, a5, a6⟩ := hInv
    have F2 := fr_knowns [("row", .ref D)] F1 (by
      simp only [List.forall_mem_cons, List.not_mem_nil, false_imp_iff, implies_true, and_true]
      exact look_ne2 (by decide +kernel) (by decide +kernel) a1)
    have N2 : News g' s.heap.objs.size h [(D, lstObj rv n), (I, oI), (sl, oL)] := by
      intro p hp
      rcases List.mem_cons.mp hp with rfl | hp
      · exact ⟨a3, a5⟩
      · exact hN p hp
    have htl := hpl _ (List.Mem.tail _ (List.mem_of_getElem? hw))
    have hrs := strsAre_len hS
    rw [Array.length_toList] at hrs
    dsimp only at htl
    have a4' : Hold (StrsAre rv.toList (partsL row0 ((ws.take j).map (·.2)))) := a4
    have hS' : Hold (StrsAre rs.toList row) := hS
    clear F F1 N hN hRn hRL a3 hT0 hR0 hS0 hx0 a1 a5 a4 hS
    k_extra "go"
    rename Fr _ _ _ _ => F
    rename News _ _ _ _ => N
    refine add_listK (N (D, lstObj rv n) (by k_mem)).1 (N _ (List.Mem.head _)).1 (by rw [sizeLine_eq]; simp; omega) (fun D2 h2 q2 hD2 k2 => ?_)
    have F3 := fr_all F k2
    have N3 := news_new F N q2 hD2 k2
    clear F N
    k_extra "go"
    rename Fr _ _ _ _ => F
    rename News _ _ _ _ => N
    refine add_listK (N (D2, _) (by k_mem)).1 (F.keep _ _ hr) (by rw [sizeLine_eq]; simp; omega) (fun D3 h3 q3 hD3 k3 => ?_)
    have F4 := fr_all F k3
    have N4 := news_new F N q3 hD3 k3
    clear F N
    k_extra "go"
    rename Fr _ _ _ _ => F
    rename News _ _ _ _ => N
    refine hQ' _ _ (show Hold _ from ⟨rfl, _, _, _, _, rfl, hB, F, ⟨D3, _, _, rfl, (N (D3, _) (by k_mem)).1, ?_, (N (D3, _) (by k_mem)).2, ?_⟩, (N (I, oI) (by k_mem)).1, (N (sl, oL) (by k_mem)).1⟩)
    · rw [List.take_add_one, hw]
      show StrsAre _ (partsL row0 (List.map _ (_ ++ [(t, row)])))
      rw [List.map_append]
      show StrsAre _ (partsL row0 (_ ++ [row]))
      rw [partsL_snoc, Array.toList_append, Array.toList_append]
      exact strsAre_append (strsAre_append a4' (.cons _ _ .nil)) hS'
    · simp; omega
  case done =>
    rintro h' gs' tk' m' F2 ⟨D, rv, n, a1, a3, a4, a5, a6⟩ hB
    have F3 := fr_knowns [("row", .ref D)] F2 (by
      simp only [List.forall_mem_cons, List.not_mem_nil, false_imp_iff, implies_true, and_true]
      exact a1)
    rw [List.take_length] at a4
    clear F F2 N hRn
    dsimp only
    k_extra "go"
    refine h _ _ _ _ _ _ ?_ a3 a4 hB (fun b o e => F3.keep _ _ (kp _ _ e (by simp)))
    cases q : s.heap.get? D with
    | none => rfl
    | some o => have := a5.2; rw [kp _ _ q (by simp)] at this; cases this
end
section
noncomputable abbrev appObj (l : Addr) : Obj := { cls := .type "builtin_function_or_method", data := .fields #[.builtin "list.append", .ref l] }
theorem slot_md_get : Slot "method_descriptor" "__get__" "method_descriptor.__get__" :=
  .of (owner := "method_descriptor") (n := "__get__") (by rw [typeLookup_type, builtinLookup_eq_fast]; kernel_rfl) (by decide +kernel) (by decide +kernel) (by decide +kernel)
    (by first | exact .inl (by decide +kernel) | exact .inr (by decide +kernel)) (by rw [isSubtype_type]; kernel_rfl)
theorem entry_md_get : entryFor table "method_descriptor.__get__" = some Builtin.«method_descriptor.__get__» := entryFor_of_tree (by kernel_rfl)
theorem args_md_get (a b c : Value) : argsOk "method_descriptor.__get__" ⟨[a, b, c], []⟩ := by unfold argsOk; kernel_rfl
theorem type_la : typeOf (.builtin "list.append") = pure (.type "method_descriptor") := by show builtinType _ = _; rw [builtinType_eq_fast]; kernel_rfl
theorem quiet_la {as : Args} : (Code.builtin "list.append" as).quiet = true := Code.quiet_builtin _ (by decide +kernel)
theorem look_la : typeLookup (.type "list") "append" = pure (some (.builtin "list.append")) := by rw [typeLookup_type, builtinLookup_eq_fast]; kernel_rfl
theorem owner_la : (kfb_private% "ownerAndName") "list.append" = ("list", "append") := by first | decide +kernel | kernel_rfl
section
variable {prog : Program} {w : World} {A : Around} {E : Value → Shared → Prop} {s : Shared} {l x : Addr} {its : Array Value} {n : Nat}
theorem run_md_get {P : Fin → Shared → Prop} (hl : s.heap.get? l = some (lstObj its n)) (h : P (.done (.ret (.ref s.heap.objs.size))) { s with heap := s.heap.push (appObj l) }) :
    wpAny (model prog w) A (Builtin.«method_descriptor.__get__» ⟨[.builtin "list.append", .ref l, .type "list"], []⟩) P E s := by
  unfold Builtin.«method_descriptor.__get__»
  refine wpAny_bind (wpAny_of_eq (a := (.builtin "list.append", some (.ref l), some (.type "list"))) (by first | rfl | kernel_rfl) ?_)
  have hm : Manifest.toldItsClass.contains "list.append" = false := by first | decide +kernel | kernel_rfl
  simp only [hm]
  refine KFB.if_not rfl ?_
  refine wpAny_bind (m := (kfb_private% "checkInstance") (.builtin "list.append") (.ref l)) ?_
  refine wpAny_bind (m := (kfb_private% "nameAndClass") (.builtin "list.append")) (wpAny_of_eq (a := (("append" : Str), .type "list")) (by first | rfl | kernel_rfl) ?_)
  refine wpAny_bind (wpAny_isInstance (T := "list") (U := "list") (b := true) ⟨_, hl, rfl⟩ (by rw [isSubtype_type]; kernel_rfl) ?_)
  refine KFB.if_not rfl (wpAny_pure ?_)
  exact wpAny_bind (wpAny_newObj_type (wpAny_pure h))
theorem get_append {name : Value} {t : Tok} {Q : Value → Shared → Prop} (hl : s.heap.get? l = some (lstObj its n))
    (h : Q (.ref s.heap.objs.size) { s with heap := s.heap.push (appObj l), toks := s.toks + 1 }) : wpAny (model prog w) A (getAttr (.ref l) "append" true) Q E s := by
  obtain ⟨hp, g, dr, t, os⟩ := s
  have hT : Shared.TypeIs ⟨hp, g, dr, t + 1, os⟩ (.ref l) "list" := ⟨_, hl, rfl⟩
  unfold getAttr getAttrBy
  refine wpAny_bind (wpAny_mkText (wpAny_holding (wpAny_bind (wpAny_typeOf hT (wpAny_bind (wpAny_of_eq slot_list_ga.lookup ?_))))))
  show wpAny _ _ (getAttrByItsOwn (.ref l) (.str "append" t) (.type "list") (.builtin "list.__getattribute__") true true) _ _ _
  unfold getAttrByItsOwn
  refine wpAny_bind (m := hookBefore (.type "list")) (wpAny_pure ?_)
  refine wpAny_bind (wpAny_attempt (wpAny_holding ?_))
  show wpAny _ _ (boundAndCalled (.builtin "list.__getattribute__") (.ref l) (.str "append" t)) _ _ _
  unfold boundAndCalled
  refine wpAny_bind (wpAny_of_eq (slot_list_ga.bind _) ?_)
  refine wpAny_mono (Q := fun u s' => u = .ref hp.objs.size ∧ s' = ⟨hp.push (appObj l), g, dr, t + 1, os⟩) (E := fun _ _ => False) ?_ (fun u s' hu => ?_) fun _ _ z => z.elim
  · refine wpAny_call_entry slot_list_ga hT entry_list_ga ?_ (by unfold argsOk; kernel_rfl)
    unfold Builtin.«object.__getattribute__»
    refine wpAny_bind (wpAny_pure ?_)
    refine wpAny_bind (wpAny_pure (wpAny_bind (wpAny_typeOf hT (wpAny_bind ?_))))
    have hF : wpAny (model prog w) A.in1 (Builtin.ObjectAttr.find (.ref l) (.type "list") "append") (fun r s' => r = Builtin.ObjectAttr.Found.bind (.builtin "method_descriptor.__get__") (.builtin "list.append") ∧ s' = ⟨hp, g, dr, t + 1, os⟩) (fun _ _ => False) ⟨hp, g, dr, t + 1, os⟩ := by
      unfold Builtin.ObjectAttr.find
      refine wpAny_bind (wpAny_of_eq look_la (wpAny_bind ?_))
      refine wpAny_specialOf (T := "method_descriptor") type_la slot_md_get.lookup ?_
      refine wpAny_bind (m := Builtin.ObjectAttr.dataDescriptor? _ _) ?_
      show wpAny _ _ (Builtin.ObjectAttr.takesStores (.builtin "list.append") >>= _) _ _ _
      have h1 : typeLookup (.type "method_descriptor") "__set__" = pure none := by rw [typeLookup_type, builtinLookup_eq_fast]; kernel_rfl
      have h2 : typeLookup (.type "method_descriptor") "__delete__" = pure none := by rw [typeLookup_type, builtinLookup_eq_fast]; kernel_rfl
      refine wpAny_bind ?_
      unfold Builtin.ObjectAttr.takesStores
      refine wpAny_bind (wpAny_specialOf (T := "method_descriptor") type_la h1 ?_)
      refine KFB.if_not rfl ?_
      refine wpAny_bind (wpAny_specialOf (T := "method_descriptor") type_la h2 (wpAny_pure ?_))
      refine KFB.if_not rfl (wpAny_pure ?_)
      show wpAny _ _ (Builtin.ObjectAttr.ownThenClass _ _ _ _) _ _ _
      unfold Builtin.ObjectAttr.ownThenClass
      refine wpAny_bind (m := Builtin.ObjectAttr.inOwnDict _ _) ?_
      show wpAny _ _ (Builtin.ObjectAttr.ownDict l >>= _) _ _ _
      refine wpAny_bind ?_
      unfold Builtin.ObjectAttr.ownDict loadHead
      refine wpAny_bind (wpAny_loadPart' hl ?_)
      show wpAny _ _ (instanceDict l false) _ _ _
      unfold instanceDict
      refine wpAny_bind (wpAny_loadPart' hl ?_)
      refine wpAny_pure ?_
      show wpAny _ _ (pure none) _ _ _
      refine wpAny_pure ?_
      show wpAny _ _ (Builtin.ObjectAttr.copiedAttributeGuard "append" (.ref l) >>= _) _ _ _
      refine wpAny_bind (wpAny_of_eq (a := ()) (by first | rfl | kernel_rfl) ?_)
      show wpAny _ _ (rule _ >>= fun _ => pure _) _ _ _
      exact wpAny_bind (wpAny_rule (wpAny_pure ⟨rfl, rfl⟩))
    refine wpAny_mono hF (fun r s' hr => ?_) fun _ _ z => z.elim
    obtain ⟨rfl, rfl⟩ := hr
    show wpAny _ _ (holding [.builtin "list.append"] (call (.builtin "method_descriptor.__get__") [.builtin "list.append", .ref l, .type "list"]) >>= ret) _ _ _
    exact wpAny_bind (wpAny_holding (wpAny_call_entry slot_md_get type_la entry_md_get (run_md_get hl ⟨_, rfl, wpAny_pure ⟨_, rfl, rfl, rfl⟩⟩) (args_md_get _ _ _)))
  · obtain ⟨rfl, rfl⟩ := hu
    show wpAny _ _ (handedOut _) _ _ _
    exact wpAny_pure h
end
section
variable {prog : Program} {w : World} {A : Around} {E : Value → Shared → Prop} {s : Shared} {l x u L : Addr} {its : Array Value} {n : Nat} {g : Heap} {m : Str → Option Value} {news news' : List (Addr × Obj)}
theorem check_la {v : Value} {o : Obj} (hl : s.heap.get? l = some (lstObj its n)) {Q : Unit → Shared → Prop} (h : Q () s) : wpAny (model prog w) A (checkBoundCall "list.append" ⟨[.ref l, v], []⟩) Q E s := by
  have hT : s.TypeIs (.ref l) "list" := ⟨_, hl, rfl⟩
  have hsig : Manifest.signature? "list.append" = some ⟨.oneArg, "list.append", "append", .self, [⟨"object", .posOnly, true⟩]⟩ := by
    rw [signature?_of (id := "list.append") (n := ['d', 'n', 'e', 'p', 'p', 'a']) (o := ['t', 's', 'i', 'l']) (by kernel_rfl) PySem.F.owner_list]; kernel_rfl
  have hk : builtinKind "list.append" = some .method := by first | kernel_rfl | decide +kernel
  have hv : Manifest.varargsMethods.contains "list.append" = false := by first | decide +kernel | kernel_rfl
  unfold checkBoundCall
  simp only [hsig, hk]
  refine KFB.if_not (by decide) ?_
  refine wpAny_bind (wpAny_isInstance (T := "list") (U := "module") (b := false) hT (by rw [isSubtype_type]; kernel_rfl) ?_)
  refine KFB.if_not (by rw [hv]; rfl) ?_
  refine wpAny_bind (m := isType (.ref l)) ?_
  show wpAny _ _ (loadHead l >>= _) _ _ _
  unfold loadHead
  refine wpAny_bind (wpAny_loadPart hl (wpAny_pure ?_))
  refine KFB.if_not rfl ?_
  refine wpAny_bind (wpAny_typeOf hT ?_)
  exact wpAny_of_eq (a := ()) (by kernel_rfl) h
theorem call_app {v : Value} {Q : Value → Shared → Prop} (hx : s.heap.get? x = some (appObj l)) (hl : s.heap.get? l = some (lstObj its n)) (hsz : its.size ≤ sizeLine)
    (h : ∀ h', Heap.SameBut l s.heap h' → h'.get? l = some (lstObj (its.push v) (n + 1)) → Q .none { s with heap := h' }) : wpAny (model prog w) A (call (.ref x) [v]) Q E s := by
  refine wpAny_call (codeAny_of_tree ?_)
  show wpAny _ A.in1 (callAny (.ref x) ⟨[v], []⟩) _ _ s
  simp only [callAny]
  refine wpAny_bind (wpAny_load hx ?_)
  simp only [show (Value.type "builtin_function_or_method" == Value.type "method" || Value.type "builtin_function_or_method" == Value.type "builtin_function_or_method" || Value.type "builtin_function_or_method" == Value.type "method-wrapper") = true by decide, if_true]
  refine KFB.if_so (by decide) ?_
  refine wpAny_bind (check_la (o := appObj l) hl ?_)
  refine wpAny_bind (wpAny_pure (wpAny_pure ?_))
  refine ⟨quiet_la, codeAny_builtin entry_list_append ?_⟩
  show wpAny _ _ (updateSeq l (·.push v) >>= fun _ => ret .none) _ _ s
  refine wpAny_bind (wpAny_updateSeq hl rfl (wpAny_pure (h _ (Heap.SameBut.update ..) ?_)))
  rw [Heap.get?_update_self _ hl (by rw [mapSeq_push]; rfl), mapSeq_push]
theorem call_appF {v : Value} {Q : Value → Shared → Prop} (F : Fr g L s.heap m) (N : News g L s.heap news) (hm : (x, appObj l) ∈ news) (U : Upd l (lstObj its n) (lstObj (its.push v) (n + 1)) news news') (hsz : its.size ≤ sizeLine)
    (h : ∀ h', Fr g L h' m → News g L h' news' → Q .none { s with heap := h' }) : wpAny (model prog w) A (call (.ref x) [v]) Q E s := by
  obtain ⟨pre, post, rfl, rfl, a, b⟩ := U.split
  have z := N (l, lstObj its n) (List.mem_append.mpr (.inr (.head _)))
  exact call_app (N _ hm).1 z.1 hsz fun h' hs ho' => h h' (F.change hs z.2.1 z.2.2) (news_set N a b hs ho')
noncomputable def AppAt (x : Addr) (h : Heap) : Prop := ∃ l, h.get? x = some (appObj l)
theorem callWith_appF {M : Model} {pos : Pos} {first : List Value} {args : List (Bool × Sem Value)} {Q : Value → Shared → Prop} (hplain : args.any (·.1) = false)
    (h : wpAny M A (evalArgs (.ref u) true args []) (fun x s₁ => AppAt u s₁.heap ∧ wpAny M A (call (.ref u) (first ++ x.pos) x.kw) Q E s₁) E s) : wpAny M A (callWith pos (.ref u) first args []) Q E s := by
  unfold callWith
  refine wpAny_bind (wpAny_holding (wpAny_mono h (fun x s₁ h₁ => wpAny_bind (wpAny_standAt ?_)) fun _ _ x => x))
  obtain ⟨⟨l, ho⟩, hcall⟩ := h₁
  simp only [hplain, List.any_nil, Bool.or_false]
  refine wpAny_bind (m := keeperOf (.ref u)) ?_
  unfold keeperOf
  refine wpAny_bind (wpAny_load ho ?_)
  simp only [show (Value.type "builtin_function_or_method" != Value.type "method") = true by decide, show (Value.type "builtin_function_or_method" == Value.type "builtin_function_or_method" || Value.type "builtin_function_or_method" == Value.type "method-wrapper") = true by decide, if_true]
  refine wpAny_pure ?_
  exact wpAny_bind (wpAny_mono hcall (fun r s₂ hr => wpAny_bind (wpAny_holding (wpAny_point (wpAny_pure hr)))) fun _ _ x => x)
theorem callWith_app {M : Model} {pos : Pos} {first : List Value} {env : Env} {e : Expr} {rest : List Expr} {Q : Value → Shared → Prop} (_N : News g L s.heap news) (_hm : (u, appObj l) ∈ news)
    (h : wpAny M A (spliced (backTo pos (starEach (e :: rest) env))) (fun vs s₁ => AppAt u s₁.heap ∧ wpAny M A (call (.ref u) (first ++ vs)) Q E s₁) E s)
    (he : starEach (e :: rest) env = (false, eval e env) :: starEach rest env := by rfl) (hplain : (backTo pos (starEach rest env)).any (·.1) = false := by rfl) :
    wpAny M A (callWith pos (.ref u) first (backTo pos (starEach (e :: rest) env)) []) Q E s := by
  rw [he] at h ⊢
  refine callWith_appF (by show (false || (backTo pos (starEach rest env)).any (·.1)) = false; rw [hplain]; rfl) ?_
  exact evalArgs_plain h
end
theorem get_appendF {prog : Program} {w : World} {A : Around} {E : Value → Shared → Prop} {s : Shared} {l L : Addr} {its : Array Value} {n : Nat} {g : Heap} {m : Str → Option Value} {news : List (Addr × Obj)} {Q : Value → Shared → Prop} (F : Fr g L s.heap m) (N : News g L s.heap news) (hm : (l, lstObj its n) ∈ news)
    (h : ∀ x h', Fr g L h' m → News g L h' ((x, appObj l) :: news) → (∀ p ∈ news, @Ne Nat p.1 x) → Q (.ref x) { s with heap := h', toks := s.toks + 1 }) : wpAny (model prog w) A (getAttr (.ref l) "append" true) Q E s := by
  obtain ⟨F', N', lt⟩ := pushed (o := appObj l) F N rfl
  exact get_append (name := .none) (t := 0) (N _ hm).1 (h _ _ F' N' lt)
end
theorem runs_toks {M : Model} {Γ : PySem.Ctx} {p : Pos} {t : Sem Fin} {fs : List Frame} {s s' : Shared} {e : End} (h : Runs M Γ p t fs s e s') : s.toks ≤ s'.toks := by
  induction h with
  | done | raise | yield => exact Nat.le_refl _
  | fresh _ ih => exact Nat.le_trans (Nat.le_succ _) ih
  | again _ _ ih | rule _ ih | «at» _ ih | load _ _ ih | update _ _ ih | loadIfAlive _ ih | point _ ih | alloc _ ih | ask _ ih | choose _ _ ih | os _ ih | handled _ ih | genState _ _ ih | stack _ ih | thread _ ih | newGen _ ih => exact ih
  | call _ _ ih1 ih2 => exact Nat.le_trans ih1 ih2
  | callSusp _ ih => exact ih
  | resumeFresh _ _ _ _ ih1 ih2 => exact Nat.le_trans ih1 ih2
  | resumeSuspended _ _ _ _ ih1 ih2 => exact Nat.le_trans ih1 ih2
  | resumeJustStarted _ _ _ ih => exact ih
  | resumeThrowFresh _ _ ih => exact ih
  | resumeRunning _ _ ih => exact ih
  | resumeFinished _ _ ih => exact ih
  | segRet _ _ ih1 ih2 => exact Nat.le_trans ih1 ih2
  | segGen _ _ ih1 ih2 => exact Nat.le_trans ih1 ih2
  | segSuspOut _ _ ih => exact ih
  | segSuspGen _ _ _ _ ih1 ih2 => exact Nat.le_trans ih1 ih2
theorem wakes_toks {M : Model} {Γ : PySem.Ctx} {p : Pos} {g : Nat} {r : Resume} {s s' : Shared} {res : GenResult} (h : Wakes M Γ p g r s res s') : s.toks ≤ s'.toks := by
  unfold Wakes at h
  split at h
  · exact h.elim
  · split at h
    · obtain ⟨e₁, s₁, h1, -, -, rfl⟩ := h; have := runs_toks h1; exact this
    · obtain ⟨-, rfl⟩ := h; exact Nat.le_refl _
    · obtain ⟨-, rfl⟩ := h; exact Nat.le_refl _
  · obtain ⟨e₁, s₁, h1, -, -, rfl⟩ := h; have := runs_toks h1; exact this
  · obtain ⟨-, rfl⟩ := h; exact Nat.le_refl _
  · obtain ⟨-, rfl⟩ := h; exact Nat.le_refl _
theorem wp_toks {α : Type} (M : Model) (Γ : PySem.Ctx) (t : Sem α) {Q : α → Pos → Shared → Prop} {E : Value → Pos → Shared → Prop} (n : Nat) (p : Pos) (s : Shared) (hn : n ≤ s.toks)
    (h : Sem.wp M Γ t (fun a p' s' => n ≤ s'.toks → Q a p' s') (fun e p' s' => n ≤ s'.toks → E e p' s') p s) : Sem.wp M Γ t Q E p s := by
  revert h
  induction t generalizing p s with
  | pure x => exact fun h => h hn
  | raise v => exact fun h => h hn
  | unsupported | finish | yield | fork | await | register => exact id
  | fresh k ih => exact ih _ _ _ (Nat.le_trans hn (Nat.le_succ _))
  | rule _ k ih | «at» _ k ih | alloc _ k ih | loadIfAlive _ k ih | point _ k ih | ask k ih | os _ _ k ih | handled _ k ih | newGen _ k ih | stack k ih | thread k ih => exact ih _ _ _ hn
  | load a _ k ih | genState a k ih => exact fun ⟨o, ho, h⟩ => ⟨o, ho, ih _ _ _ hn h⟩
  | update a _ f k ih | choose _ _ k ih => exact fun ⟨ha, h⟩ => ⟨ha, ih _ _ _ hn h⟩
  | call c h g l k ih => exact fun ⟨r, s', hr, h⟩ => ⟨r, s', hr, ih _ _ _ (Nat.le_trans hn (runs_toks hr)) h⟩
  | resume g r l k ih => exact fun ⟨res, s', hw, h⟩ => ⟨res, s', hw, ih _ _ _ (Nat.le_trans hn (wakes_toks hw)) h⟩
theorem wpAny_tok {α : Type} {M : Model} {A : Around} {t : Sem α} {Q : α → Shared → Prop} {E : Value → Shared → Prop} {s : Shared}
    (h : wpAny M A t (fun a s' => s.toks ≤ s'.toks → Q a s') (fun e s' => s.toks ≤ s'.toks → E e s') s) : wpAny M A t Q E s :=
  fun Γ p hΓ => wp_toks M Γ t s.toks p s (Nat.le_refl _) (h Γ p hΓ)
example : True := by
  k_with "getAttr ref" =>
    (k_here; (with_reducible show wpAny _ _ (getAttr (Value.ref _) (Str.ofString "append") true) _ _ _); k_dflt (refine' get_appendF ?qFz ?qNz ?qmz ?_; (case qFz => k_asm); (case qNz => k_asm); (case qmz => k_mem); k_whole); intro _ _ _ _ zlt; ((replace zlt := allNe_of zlt); (simp only [AllNe, and_true] at zlt); (repeat ((have _ := And.left zlt); (replace zlt := And.right zlt)))); (try (revert zlt; intro _)); (try k_sweep))
  k_with "callWith ref" =>
    (k_here; (with_reducible show wpAny _ _ (callWith _ (Value.ref _) _ (backTo _ (starEach (_ :: _) _)) []) _ _ _); k_dflt (refine' callWith_app ?qNz ?qMz ?_; (case qNz => k_asm); (case qMz => k_mem); k_whole))
  k_with "And" =>
    ((with_reducible show AppAt _ _ ∧ _); refine ⟨⟨_, News.get (by k_asm) (by k_mem)⟩, ?_⟩; (try dsimp only [List.nil_append, List.cons_append]))
  k_with "call ref" =>
    (k_here; (with_reducible show wpAny _ _ (call (Value.ref _) [_]) _ _ _); k_dflt (refine' call_appF ?qFz ?qNz ?qmz ?qUz ?qzz ?_; (case qFz => k_asm); (case qNz => k_asm); (case qmz => k_mem); (case qUz => k_upd); (case qzz => exact Small.line (by assumption)); k_whole); intro _ _ _; (try k_sweep))
  k_with "unpackItems ref" =>
    (k_here; k_dflt (refine' unpackItemsN_ ?qk1z ?qk2z ?qk3z ?qk4z ?qk5z ?_; (case qk1z => k_asm); (case qk2z => k_asm); (case qk3z => kun_tup); (case qk4z => assumption); (case qk5z => exact rfl); k_whole); intro _ _ _; (try k_sweep))
  k_with "AppAt" =>
    exact ⟨_, News.get (by k_asm) (by k_mem)⟩
  trivial
section
noncomputable def NotSame (V x : Value) : Prop := ∀ (w : World) (A : Around) (Q : Value → Shared → Prop) (E : Value → Shared → Prop) (s : Shared), Q (.bool true) s → wpAny (model PR w) A (compareOp .IsNot x V) Q E s
noncomputable def SelfSame (V : Value) : Prop := ∀ (w : World) (A : Around) (Q : Value → Shared → Prop) (E : Value → Shared → Prop) (s : Shared), Q (.bool false) s → wpAny (model PR w) A (compareOp .IsNot V V) Q E s
theorem notSame_str {m s : Str} {tm t : Tok} (h : s ≠ m) (h0 : t ≠ tm) (h1 : t ≠ 0) (h2 : tm ≠ 0) : NotSame (.str m tm) (.str s t) := by
  intro w A Q E st hq
  show wpAny _ _ (do return .bool (!(← isSame (.str s t) (.str m tm)))) Q E st
  refine wpAny_bind ?_
  show wpAny _ _ (isSame.created (s == m) t tm) _ _ _
  unfold isSame.created
  refine KFB.if_not (by simp [h1, h2]) ?_
  refine KFB.if_not (by simpa using h0) ?_
  refine KFB.if_so (by simpa using h) (wpAny_pure (wpAny_pure hq))
theorem selfSame_str {m : Str} {tm : Tok} (h2 : tm ≠ 0) : SelfSame (.str m tm) := by
  intro w A Q E st hq
  show wpAny _ _ (do return .bool (!(← isSame (.str m tm) (.str m tm)))) Q E st
  refine wpAny_bind ?_
  show wpAny _ _ (isSame.created (m == m) tm tm) _ _ _
  unfold isSame.created
  refine KFB.if_not (by simp [h2]) ?_
  exact KFB.if_so (by simp) (wpAny_pure (wpAny_pure hq))
theorem notSame_ref {a : Addr} {s : Str} {t : Tok} : NotSame (.ref a) (.str s t) := fun _ _ _ _ _ h => wpAny_isNot_other rfl (fun e => nomatch e) h
theorem selfSame_ref {a : Addr} : SelfSame (.ref a) := fun _ _ _ _ _ h => wpAny_isNot_ref_self h
inductive TrRow (V : Value) : List Value → List (Option Str) → Prop
  | nil : TrRow V [] []
  | star {vs r} : TrRow V vs r → TrRow V (V :: vs) (none :: r)
  | txt {s t vs r} : NotSame V (.str s t) → TrRow V vs r → TrRow V (.str s t :: vs) (some s :: r)
theorem TrRow.append {V : Value} {a b : List Value} {x y : List (Option Str)} (h : TrRow V a x) (k : TrRow V b y) : TrRow V (a ++ b) (x ++ y) := by
  induction h with
  | nil => exact k
  | star _ ih => exact .star ih
  | txt h1 _ ih => exact .txt h1 ih
theorem TrRow.length {V : Value} {a : List Value} {x : List (Option Str)} (h : TrRow V a x) : a.length = x.length := by
  induction h with
  | nil => rfl
  | star _ ih => simp [ih]
  | txt _ _ ih => simp [ih]
theorem TrRow.last {V : Value} {a : List Value} {v : Value} {x : List (Option Str)} (h : TrRow V (a ++ [v]) x) : ∃ y o, x = y ++ [o] ∧ TrRow V a y ∧ ((o = none ∧ v = V) ∨ (∃ s t, o = some s ∧ v = .str s t ∧ NotSame V v)) := by
  induction a generalizing x with
  | nil =>
    cases h with
    | star h => cases h; exact ⟨[], none, rfl, .nil, .inl ⟨rfl, rfl⟩⟩
    | txt h1 h => cases h; exact ⟨[], _, rfl, .nil, .inr ⟨_, _, rfl, rfl, h1⟩⟩
  | cons b a ih =>
    cases h with
    | star h => obtain ⟨y, o, e, r, q⟩ := ih h; exact ⟨none :: y, o, by rw [e]; rfl, .star r, q⟩
    | txt h1 h => obtain ⟨y, o, e, r, q⟩ := ih h; exact ⟨_ :: y, o, by rw [e]; rfl, .txt h1 r, q⟩
noncomputable def pt (d : Nat) : Str := (["*", "?", "a", ".", "[ab]", "[!b-d]", "#", "b", " "] : List Str).getD d ""
noncomputable def textOf : List Nat → Str
  | [] => ""
  | d :: r => pt d ++ textOf r
theorem textOf_append : ∀ a b, textOf (a ++ b) = textOf a ++ textOf b
  | [], b => (Str.empty_append _).symm
  | d :: r, b => by
    show pt d ++ textOf (r ++ b) = (pt d ++ textOf r) ++ textOf b
    rw [textOf_append r b, Str.append_assoc]
noncomputable def partOf (sign : Str) (d : Nat) : Option Str := ([none, some sign, some "a", some "\\.", some "[ab]", some "[^b-d]", some "\\#", some "b", some "\\ "] : List (Option Str)).getD d none
noncomputable def addRow (sign : Str) (r : List (Option Str)) (d : Nat) : List (Option Str) := if d = 0 ∧ r.getLast? = some none then r else r ++ [partOf sign d]
noncomputable def rowOf (sign : Str) (ds : List Nat) : List (Option Str) := ds.foldl (addRow sign) []
theorem rowOf_snoc (sign : Str) (ds : List Nat) (d : Nat) : rowOf sign (ds ++ [d]) = addRow sign (rowOf sign ds) d := by
  unfold rowOf; rw [List.foldl_append]; rfl
theorem addRows_le (sign : Str) : ∀ (ds : List Nat) (r : List (Option Str)), (ds.foldl (addRow sign) r).length ≤ r.length + ds.length
  | [], _ => Nat.le_refl _
  | d :: ds, r => by
    have h1 := addRows_le sign ds (addRow sign r d)
    have h2 : (addRow sign r d).length ≤ r.length + 1 := by
      unfold addRow
      split
      · omega
      · simp
    simp only [List.foldl_cons, List.length_cons]
    omega
theorem rowOf_le (sign : Str) (ds : List Nat) : (rowOf sign ds).length ≤ ds.length := by
  have := addRows_le sign ds []
  simpa [rowOf] using this
theorem str_at {a b c : Str} {k : Nat} {x : Nat} (h : b.cps[k]? = some x) : (a ++ (b ++ c)).cps[a.length + k]? = some x := by
  rw [← Array.getElem?_toList] at h ⊢
  rw [Str.cps_append, Str.cps_append, Array.toList_append, Array.toList_append]
  have hk : k < b.cps.toList.length := by
    obtain ⟨q, -⟩ := List.getElem?_eq_some_iff.mp h; exact q
  have e1 : a.length = a.cps.toList.length := by rw [Array.length_toList]; rfl
  rw [e1, List.getElem?_append_right (by omega), List.getElem?_append_left (by omega)]
  rw [show a.cps.toList.length + k - a.cps.toList.length = k by omega]; exact h
theorem sub_str {prog : Program} {w : World} {A : Around} {E : Value → Shared → Prop} {s : Shared} {x : Str} {t u : Tok} {i c : Nat} {value slice : Expr} {Q : Value → Shared → Prop} (hc : x.cps[i]? = some c) (hz : x.length ≤ 100000)
    (h : Q (.str ⟨#[c]⟩ s.toks) { s with toks := s.toks + 1 }) (hs : subscripted slice false (.str x t) (.int (i : Int) u) = operate [.str x t, .int (i : Int) u] (getItem (.str x t) (.int (i : Int) u))) (ht : ∀ r, letTemporaryGo value (.str x t) r = pure ()) :
    wpAny (model prog w) A (subscriptTail value slice (.str x t) (.int (i : Int) u)) Q E s := by
  have hi : i < x.length := by
    obtain ⟨q, -⟩ := Array.getElem?_eq_some_iff.mp hc; exact q
  have e0 : (-(x.length : Int) ≤ (i : Int)) := by omega
  have hit : Txt.item x (i : Int) = ⟨#[c]⟩ := by
    unfold Txt.item Txt.charAt
    rw [PySem.seqIndex_of (by omega) (by omega)]
    simp [hc]
  have := item_str (value := value) (slice := slice) (prog := prog) (w := w) (A := A) (E := E) (s := s) (x := x) (t := t) (i := (i : Int)) (u := u) (Q := Q) (by unfold fitsSsize; simp; omega) e0 (by omega) (fun _ => by rw [hit]; exact h) hs ht
  exact this
theorem pt_len (d : Nat) : (pt d).length ≤ 6 := by
  unfold pt
  match d with
  | 0 | 1 | 2 | 3 | 4 | 5 | 6 | 7 | 8 => exact Nat.le_of_ble_eq_true rfl
  | n + 9 => exact Nat.le_of_ble_eq_true rfl
theorem textOf_len : ∀ ds, (textOf ds).length ≤ 6 * ds.length
  | [] => Nat.le_of_ble_eq_true rfl
  | d :: r => by
    show (pt d ++ textOf r).length ≤ _
    rw [Str.length_append, List.length_cons]
    have := pt_len d
    have := textOf_len r
    omega
structure TrInv (g : Heap) (L : Addr) (R x : Addr) (V : Value) (pat sign : Str) (tp tq : Tok) (n0 : Nat) (ds : List Nat) (pre rest : List Nat) (h : Heap) (gs : Array GenState) (tk : Nat) (m : Str → Option Value) : Prop where
  eds : ds = pre ++ rest
  bare : AllBare gs
  fr : Fr g L h m
  mpat : m "pat" = some (.str pat tp)
  mstar : m "STAR" = some V
  msign : m "QUESTION_MARK" = some (.str sign tq)
  mres : m "res" = some (.ref R)
  madd : m "add" = some (.ref x)
  mi : ∃ ti, m "i" = some (.int ((textOf pre).length : Int) ti)
  mn : ∃ tn, m "n" = some (.int (pat.length : Int) tn)
  nw : ∃ rv nn tb, News g L h [(x, appObj R), (R, lstObj rv nn), (225, tabObj tb)] ∧ TriplesOk tb.toList ∧ TrRow V rv.toList (rowOf sign pre)
  htk : n0 ≤ tk
structure CharIs (x : Str) (k off : Nat) (lit : Str) : Prop where
  ex : ∃ c, x.cps[k + off]? = some c ∧ (⟨#[c]⟩ : Str) = lit
theorem charIs_of {a b c : Str} {off : Nat} {x : Nat} {lit : Str} (h : b.cps[off]? = some x) (e : (⟨#[x]⟩ : Str) = lit) : CharIs (a ++ (b ++ c)) a.length off lit := ⟨⟨x, str_at h, e⟩⟩
theorem sub_strC {prog : Program} {w : World} {A : Around} {E : Value → Shared → Prop} {s : Shared} {x lit : Str} {t u : Tok} {i : Int} {k off : Nat} {value slice : Expr} {Q : Value → Shared → Prop} (hi : i = (k : Int) + (off : Int)) (hc : CharIs x k off lit) (hz : Small x.length)
    (h : Q (.str lit s.toks) { s with toks := s.toks + 1 }) (hs : subscripted slice false (.str x t) (.int i u) = operate [.str x t, .int i u] (getItem (.str x t) (.int i u))) (ht : ∀ r, letTemporaryGo value (.str x t) r = pure ()) :
    wpAny (model prog w) A (subscriptTail value slice (.str x t) (.int i u)) Q E s := by
  obtain ⟨⟨c, hc, rfl⟩⟩ := hc
  obtain rfl : i = ((k + off : Nat) : Int) := by rw [hi]; omega
  exact sub_str hc (Nat.le_trans hz (by decide)) h hs ht
theorem textOf_snoc_len (pre : List Nat) (d : Nat) : (textOf (pre ++ [d])).length = (textOf pre).length + (pt d).length := by
  rw [textOf_append, Str.length_append]
  show _ + (pt d ++ ("" : Str)).length = _
  rw [Str.length_append]
  show _ + (_ + 0) = _
  omega
theorem int_eq {a b : Int} {t : Tok} (h : a = b) : some (Value.int a t) = some (Value.int b t) := by rw [h]
theorem row_txt {V : Value} {sign : Str} {pre : List Nat} {d : Nat} {rv : Array Value} {x : Str} {t : Tok} (hrow : TrRow V rv.toList (rowOf sign pre)) (hd : d ≠ 0) (hp : partOf sign d = some x) (hn : NotSame V (.str x t)) : TrRow V (rv.push (.str x t)).toList (rowOf sign (pre ++ [d])) := by
  rw [Array.toList_push, rowOf_snoc]
  unfold addRow
  rw [if_neg (fun q => hd q.1), hp]
  exact hrow.append (.txt hn .nil)
end
example : True := by
  k_with "goW" =>
    repeat' (first
      | ((with_reducible show wpAny _ _ (execs (_ :: _) _) _ _ _); refine hide_cons ?_; intro _ _)
      | ((fail_if_success (with_reducible show wpAny _ _ _ _ _ _)); refine Nx.next (by assumption) _ ?_; (try dsimp only); (try (rename Nx _ _ _ => hz'; clear hz'; rename Flow → Shared → Prop => qz'; clear qz')))
      | ((fail_if_success (with_reducible show wpAny _ _ _ _ _ _)); first | (refine Nx.ret (by assumption) _ _ ?_) | (refine Nx.brk (by assumption) _ ?_) | (refine Nx.cont (by assumption) _ ?_))
      | ((with_reducible show wpAny _ _ (storeName _ _ _) _ _ _); dsimp only) | (with_reducible refine wpAny_While ?_) | (k_unfold; (try dsimp only)) | walk1 | (dsimp only; walk1) | fail "no step")
  trivial
example : True := by
  k_with "my_charat" =>
    first
      | ((with_reducible refine' sub_strC (off := 0) ?qhiz ?qhcz ?qhzz ?_ ?qhsz ?qhtz); (case qhcz => assumption); (case qhiz => omega); (case qhzz => assumption); (case qhsz => exact rfl); (case qhtz => exact fun _ => rfl))
      | ((with_reducible refine' sub_strC (off := 1) ?qhiz ?qhcz ?qhzz ?_ ?qhsz ?qhtz); (case qhcz => assumption); (case qhiz => omega); (case qhzz => assumption); (case qhsz => exact rfl); (case qhtz => exact fun _ => rfl))
      | ((with_reducible refine' sub_strC (off := 2) ?qhiz ?qhcz ?qhzz ?_ ?qhsz ?qhtz); (case qhcz => assumption); (case qhiz => omega); (case qhzz => assumption); (case qhsz => exact rfl); (case qhtz => exact fun _ => rfl))
      | ((with_reducible refine' sub_strC (off := 3) ?qhiz ?qhcz ?qhzz ?_ ?qhsz ?qhtz); (case qhcz => assumption); (case qhiz => omega); (case qhzz => assumption); (case qhsz => exact rfl); (case qhtz => exact fun _ => rfl))
      | ((with_reducible refine' sub_strC (off := 4) ?qhiz ?qhcz ?qhzz ?_ ?qhsz ?qhtz); (case qhcz => assumption); (case qhiz => omega); (case qhzz => assumption); (case qhsz => exact rfl); (case qhtz => exact fun _ => rfl))
      | ((with_reducible refine' sub_strC (off := 5) ?qhiz ?qhcz ?qhzz ?_ ?qhsz ?qhtz); (case qhcz => assumption); (case qhiz => omega); (case qhzz => assumption); (case qhsz => exact rfl); (case qhtz => exact fun _ => rfl))
  k_with "subscriptTail Name Name str int" =>
    (k_here; (with_reducible show wpAny _ _ (subscriptTail _ _ (Value.str _ _) (Value.int _ _)) _ _ _); k_dflt (k_extra "my_charat"; k_whole))
  trivial
section
noncomputable def keysOk (es : Array DictEntry) : Bool := es.all fun e => match e.key with | .int i _ => e.hash == hashInt i | _ => false
theorem keysOf_ok {prog : Program} {w : World} {es : Array DictEntry} (h : keysOk es = true) : KeysOf (intKind prog w) es := by
  intro e he
  have h1 := (Array.all_eq_true_iff_forall_mem.mp h) e (by simpa using he)
  cases hk : e.key with
  | int i t =>
    rw [hk] at h1
    exact ⟨i, by simp [intKind, Value.isInt, hk], by simpa [intKind] using h1⟩
  | _ => rw [hk] at h1; cases h1
theorem chars_map {w : World} {h : Heap} (X : (hd.heap_1 w.params).In h) : ∃ f : Int → Option Value, h.MapOf (intKind PR w) 213 f ∧ f 97 = none ∧ f 98 = none ∧ (∃ t, f 46 = some (.str "\\." t)) ∧ (∃ t, f 35 = some (.str "\\#" t)) ∧ (∃ t, f 32 = some (.str "\\ " t)) := by
  have ho := X 213 _ rfl
  exact ⟨fun k => findBy Value.isInt _ k, ⟨_, _, _, ho, ⟨rfl, rfl, rfl⟩, rfl, keysOf_ok (by decide +kernel), fun k => rfl⟩, by rfl, by rfl, ⟨_, rfl⟩, ⟨_, rfl⟩, ⟨_, rfl⟩⟩
theorem table_keep {w : World} {A : Around} {E : Value → Shared → Prop} {s : Shared} {f : Int → Option Value} {c : Nat} {Q : Builtin.Str.Mapped → Shared → Prop} (hh : A.handled = none) (hm : s.heap.MapOf (intKind PR w) 213 f) (hc : f (c : Int) = none)
    (h : ∀ h' tk, (∀ b o, s.heap.get? b = some o → h'.get? b = some o) → Q .keep { s with heap := h', toks := tk }) : wpAny (model PR w) A (Builtin.Str.tableLookup (.ref 213) c) Q E s := by
  unfold Builtin.Str.tableLookup
  refine wpAny_bind (wpAny_attempt ?_)
  refine wpAny_bind (wpAny_mkInt ?_)
  refine wpAny_getItem_missing_of (f := f) (k := (c : Int)) (by simp [intKind, Value.isInt]) (by decide) hh hm hc (fun h' e he => ?_)
  dsimp only
  obtain ⟨hT, hk, there⟩ := he
  obtain ⟨ob, tu, ho, hc', -⟩ := there
  refine wpAny_bind (wpAny_isInstance (T := "KeyError") (U := "LookupError") (b := true) ?_ (by rw [isSubtype_type]; kernel_rfl) ?_)
  · exact ⟨ob, ho, hc'⟩
  · exact KFB.if_so rfl (wpAny_bind (wpAny_rule (wpAny_pure (h _ _ hT))))
theorem table_text {w : World} {A : Around} {E : Value → Shared → Prop} {s : Shared} {f : Int → Option Value} {c : Nat} {x : Str} {t : Tok} {Q : Builtin.Str.Mapped → Shared → Prop} (hm : s.heap.MapOf (intKind PR w) 213 f) (hc : f (c : Int) = some (.str x t))
    (h : ∀ tk, Q (.text x) { s with toks := tk }) : wpAny (model PR w) A (Builtin.Str.tableLookup (.ref 213) c) Q E s := by
  unfold Builtin.Str.tableLookup
  refine wpAny_bind (wpAny_attempt ?_)
  refine wpAny_bind (wpAny_mkInt ?_)
  refine wpAny_getItem_of (f := f) (k := (c : Int)) (by simp [intKind, Value.isInt]) hm hc ?_
  dsimp only
  refine wpAny_bind (wpAny_of_eq (a := none) (by first | rfl | kernel_rfl) ?_)
  dsimp only
  refine wpAny_bind (wpAny_of_eq (a := some x) (by first | rfl | kernel_rfl) ?_)
  exact wpAny_pure (h _)
theorem forIn_one {σ : Type} (c : Nat) (init : σ) (f : Nat → σ → Sem (ForInStep σ)) : forIn #[c] init f = (f c init >>= fun r => match r with | .done b => pure b | .yield b => pure b) := by
  rw [← Array.forIn_toList]
  simp only [List.forIn_cons, List.forIn_nil]
  rfl
theorem trans_keep {w : World} {A : Around} {E : Value → Shared → Prop} {s : Shared} {f : Int → Option Value} {c : Nat} {t : Tok} {Q : Fin → Shared → Prop} (hh : A.handled = none) (hm : s.heap.MapOf (intKind PR w) 213 f) (hc : c < 128) (hf : f (c : Int) = none)
    (h : ∀ h' tk, (∀ b o, s.heap.get? b = some o → h'.get? b = some o) → Q (.done (.ret (.str ⟨#[c]⟩ tk))) { s with heap := h', toks := tk + 1 }) :
    wpAny (model PR w) A (Builtin.«str.translate» ⟨[.str ⟨#[c]⟩ t, .ref 213], []⟩) Q E s := by
  unfold Builtin.«str.translate»
  refine wpAny_bind (wpAny_of_eq (a := (.str ⟨#[c]⟩ t, ⟨#[c]⟩, .ref 213)) (by first | rfl | kernel_rfl) ?_)
  refine KFB.if_not rfl ?_
  have hfast : (#[c] : Array Nat).all (fun x => decide (x < 128)) = true := by simp [hc]
  dsimp only
  rw [hfast, forIn_one]
  refine wpAny_bind (wpAny_bind ?_)
  refine KFB.if_not (by decide) ?_
  refine KFB.if_so rfl ?_
  refine wpAny_bind (table_keep hh hm hf fun h' tk k => ?_)
  dsimp only
  refine wpAny_bind (wpAny_pure (wpAny_pure (wpAny_pure ?_)))
  refine KFB.if_not (show Builtin.Str.tooLong 1 = false by decide) ?_
  show wpAny _ _ (mkStr _ >>= fun v => ret v) _ _ _
  have e1 : (⟨List.foldl (fun acc p => acc ++ p.cps) #[] ([⟨#[c]⟩] : List Str).reverse⟩ : Str) = ⟨#[c]⟩ := by simp
  refine wpAny_bind (wpAny_mkStr (wpAny_pure ?_) ?_)
  · rw [e1]; exact h _ _ k
  · rw [e1]; exact Nat.le_of_ble_eq_true rfl
theorem trans_text {w : World} {A : Around} {E : Value → Shared → Prop} {s : Shared} {f : Int → Option Value} {c : Nat} {t u : Tok} {x : Str} {Q : Fin → Shared → Prop} (hm : s.heap.MapOf (intKind PR w) 213 f) (hc : c < 128) (hf : f (c : Int) = some (.str x u)) (hx : x.length = 2)
    (h : ∀ tk, Q (.done (.ret (.str x tk))) { s with toks := tk + 1 }) :
    wpAny (model PR w) A (Builtin.«str.translate» ⟨[.str ⟨#[c]⟩ t, .ref 213], []⟩) Q E s := by
  unfold Builtin.«str.translate»
  refine wpAny_bind (wpAny_of_eq (a := (.str ⟨#[c]⟩ t, ⟨#[c]⟩, .ref 213)) (by first | rfl | kernel_rfl) ?_)
  refine KFB.if_not rfl ?_
  have hfast : (#[c] : Array Nat).all (fun x => decide (x < 128)) = true := by simp [hc]
  dsimp only
  rw [hfast, forIn_one]
  refine wpAny_bind (wpAny_bind ?_)
  refine KFB.if_not (by decide) ?_
  refine KFB.if_so rfl ?_
  refine wpAny_bind (table_text hm hf fun tk => ?_)
  dsimp only
  have hn : (if (x.length == 1 && x.cps.all fun x => decide (x < 128)) = true then some x.cps[0]? else none) = none := if_neg (by simp [hx])
  rw [hn]
  dsimp only
  refine wpAny_bind (wpAny_pure ?_)
  dsimp only
  refine wpAny_bind (wpAny_rule ?_)
  refine KFB.if_not rfl ?_
  refine wpAny_bind (table_text hm hf fun tk => ?_)
  dsimp only
  refine wpAny_pure (wpAny_pure ?_)
  refine KFB.if_not (by show Builtin.Str.tooLong (0 + x.length) = false; rw [hx]; decide) ?_
  show wpAny _ _ (mkStr _ >>= fun v => ret v) _ _ _
  have e1 : (⟨List.foldl (fun acc p => acc ++ p.cps) #[] ([x] : List Str).reverse⟩ : Str) = x := by simp
  refine wpAny_bind (wpAny_mkStr (wpAny_pure ?_) ?_)
  · rw [e1]; exact h _
  · rw [e1, hx]; exact Nat.le_of_ble_eq_true rfl
theorem getm_trans {w : World} {A : Around} {E : Value → Shared → Prop} {s : Shared} {x : Str} {t : Tok} {pl : Sem Bool} {Q : Value × List Value → Shared → Prop} (h : Q (.builtin "str.translate", [.str x t]) s) : wpAny (model PR w) A (getMethod (.str x t) "translate" pl) Q E s := by
  with_reducible exact GM.of (.str x t) (typeIs_str _ _ _) PySem.F.slot_str_translate PySem.F.type_str_translate GM.noRef h
end
section
noncomputable def EscOf (x y : Str) : Prop := (x, y) ∈ ([("a", "a"), ("b", "b"), (".", "\\."), ("#", "\\#"), (" ", "\\ ")] : List (Str × Str))
theorem escape_spec {w : World} {A : Around} {s : Shared} {g : Heap} {p : Program} {loose : List Str} {mg mb : Str → Option Value} {x y : Str} {tp : Tok} {Q E : Value → Shared → Prop}
    (G : Gd w p loose mg mb g) (st : g.StaysIn s.heap) (hh : A.handled = none) (hu : A.units + 200 < cLine) (hr : A.depth + 4 < recursionLimit) (he : EscOf x y)
    (h : ∀ h' t tk, s.toks ≤ t → (∀ b o, s.heap.get? b = some o → h'.get? b = some o) → Q (.str y t) ⟨h', s.gens, s.drawn, tk, s.os⟩) :
    wpAny (model PR w) A (call (.ref 223) [.str x tp]) Q E s := by
  refine wpAny_call ?_
  refine' enter (binds := [("pattern", .str x tp)]) (led := []) G.K G.T st ?hl ?ho ?hcd (om_0 hr) ?hb ?hloc ?_ ?hcell ?hco ?hgen ?hk
  case hl => simp only [List.not_mem_nil, false_imp_iff, implies_true]
  case ho => k_is
  case hcd => k_is
  case hb => exact BindsTo.of_eq rfl
  case hloc => rfl
  case hcell => decide
  case hco => rfl
  case hgen => rfl
  case hk => rfl
  intro g' h₁ kp st' kp₁ F' N' X' T'
  have G' : Gd w p loose mg mb g' := ⟨X', T', G.B.keeps st'⟩
  generalize hk0 : s.toks + [(("pattern" : Str), Value.str x tp)].length = tk0
  have hle0 : s.toks + 1 ≤ tk0 := by rw [← hk0]; exact Nat.le_refl _
  clear hk0
  refine wpAny_tok ?_
  k_extra "go"
  with_reducible refine getm_trans ?_
  dsimp only
  k_extra "go"
  rename Fr _ _ _ _ => F
  obtain ⟨f, hm, f1, f2, ⟨u1, f3⟩, ⟨u2, f4⟩, ⟨u3, f5⟩⟩ := chars_map (G'.K.keeps F.keep)
  refine wpAny_call_entry PySem.F.slot_str_translate (typeIs_str _ _ _) PySem.F.entry_str_translate ?_ (PySem.F.args_str_translate_2 _ _)
  have fin : ∀ h' tk', (∀ b o, h₁.get? b = some o → h'.get? b = some o) → (tk0 ≤ tk' + 1 → Q (.str y tk') ⟨h', s.gens, s.drawn, tk' + 1, s.os⟩) := fun h' tk' k hle => h h' tk' _ (by omega) (fun b o e => k b o (kp₁ b o e))
  simp only [EscOf, List.mem_cons, Prod.mk.injEq, List.not_mem_nil, or_false] at he
  obtain ⟨rfl, rfl⟩ | ⟨rfl, rfl⟩ | ⟨rfl, rfl⟩ | ⟨rfl, rfl⟩ | ⟨rfl, rfl⟩ := he
  · exact trans_keep (c := 97) hh hm (by decide) f1 fun h' tk' k => ⟨_, rfl, fin h' tk' k⟩
  · exact trans_keep (c := 98) hh hm (by decide) f2 fun h' tk' k => ⟨_, rfl, fin h' tk' k⟩
  · exact trans_text (c := 46) hm (by decide) f3 rfl fun tk' => ⟨_, rfl, fin _ tk' fun _ _ e => e⟩
  · exact trans_text (c := 35) hm (by decide) f4 rfl fun tk' => ⟨_, rfl, fin _ tk' fun _ _ e => e⟩
  · exact trans_text (c := 32) hm (by decide) f5 rfl fun tk' => ⟨_, rfl, fin _ tk' fun _ _ e => e⟩
end
section
structure TokLo (n t : Nat) : Prop where
  le : n ≤ t
theorem TokLo.up {n t t' : Nat} (h : TokLo n t) (k : t ≤ t') : TokLo n t' := ⟨Nat.le_trans h.le k⟩
theorem gen_toks {α : Type} {M : Model} {A : Around} {T : Sem α} {Q : α → Shared → Prop} {E : Value → Shared → Prop} {hp : Heap} {g : Array GenState} {d : Drawn} {os : OsState} {n0 t : Nat} (h : TokLo n0 (t + 1)) (hh : ∀ tk, TokLo n0 tk → wpAny M A T Q E ⟨hp, g, d, tk, os⟩) : wpAny M A T Q E ⟨hp, g, d, t + 1, os⟩ := hh _ h
theorem escape_F {w : World} {A : Around} {s : Shared} {g : Heap} {L : Addr} {m : Str → Option Value} {news : List (Addr × Obj)} {p : Program} {loose : List Str} {mg mb : Str → Option Value} {x y : Str} {tp : Tok} {n0 : Nat} {Q E : Value → Shared → Prop}
    (G : Gd w p loose mg mb g) (F : Fr g L s.heap m) (N : News g L s.heap news) (hh : A.handled = none) (hu : A.units + 200 < cLine) (hr : A.depth + 4 < recursionLimit) (he : EscOf x y) (hlo : TokLo n0 s.toks)
    (h : ∀ h' t tk, Fr g L h' m → News g L h' news → TokLo n0 t → Q (.str y t) ⟨h', s.gens, s.drawn, tk, s.os⟩) :
    wpAny (model PR w) A (call (.ref 223) [.str x tp]) Q E s :=
  escape_spec G F.keep hh hu hr he fun h' t tk ht k => h h' t tk (fr_all F k) (news_all N k) (hlo.up ht)
theorem esc_a : EscOf "a" "a" := List.Mem.head _
theorem esc_b : EscOf "b" "b" := List.Mem.tail _ (List.Mem.head _)
theorem esc_dot : EscOf "." "\\." := List.Mem.tail _ (List.Mem.tail _ (List.Mem.head _))
theorem esc_hash : EscOf "#" "\\#" := List.Mem.tail _ (List.Mem.tail _ (List.Mem.tail _ (List.Mem.head _)))
theorem esc_sp : EscOf " " "\\ " := List.Mem.tail _ (List.Mem.tail _ (List.Mem.tail _ (List.Mem.tail _ (List.Mem.head _))))
theorem row_star {V : Value} {sign : Str} {pre : List Nat} {rv : Array Value} (hrow : TrRow V rv.toList (rowOf sign pre)) (hl : (rowOf sign pre).getLast? ≠ some none) : TrRow V (rv.push V).toList (rowOf sign (pre ++ [0])) := by
  rw [Array.toList_push, rowOf_snoc]
  unfold addRow
  rw [if_neg (fun q => hl q.2)]
  exact hrow.append (.star .nil)
theorem row_same {V : Value} {sign : Str} {pre : List Nat} {rv : Array Value} (hrow : TrRow V rv.toList (rowOf sign pre)) (hl : (rowOf sign pre).getLast? = some none) : TrRow V rv.toList (rowOf sign (pre ++ [0])) := by
  rw [rowOf_snoc]
  unfold addRow
  rw [if_pos ⟨rfl, hl⟩]
  exact hrow
theorem push_or {rv : Array Value} : rv = #[] ∨ ∃ (pv : Array Value) (v : Value), rv = pv.push v := by
  rcases List.eq_nil_or_concat rv.toList with e | ⟨l, a, e⟩
  · exact .inl (Array.ext' e)
  · exact .inr ⟨l.toArray, a, Array.ext' (by rw [Array.toList_push, e, List.concat_eq_append])⟩
theorem units_dd {A : Around} {env : Env} (h : A.units + 400 < cLine) : (A.deeper env).units + 200 < cLine := by
  show A.units + 3 + 200 < cLine
  exact om_u h (by decide)
theorem truthy_nil {w : World} {A : Around} {E : Value → Shared → Prop} {s : Shared} {l L : Addr} {n : Nat} {g : Heap} {news : List (Addr × Obj)} {Q : Bool → Shared → Prop} (N : News g L s.heap news) (hm : (l, lstObj #[] n) ∈ news) (h : Q false { s with toks := s.toks + 1 + 1 }) : wpAny (model PR w) A (truthy (.ref l)) Q E s :=
  wpAny_truthy_list ⟨_, (N _ hm).1, rfl, _, rfl⟩ (by decide) h
theorem truthy_push {w : World} {A : Around} {E : Value → Shared → Prop} {s : Shared} {l L : Addr} {pv : Array Value} {v : Value} {n : Nat} {g : Heap} {news : List (Addr × Obj)} {Q : Bool → Shared → Prop} (N : News g L s.heap news) (hm : (l, lstObj (pv.push v) n) ∈ news) (hz : Small (pv.push v).size) (h : Q true { s with toks := s.toks + 1 + 1 }) : wpAny (model PR w) A (truthy (.ref l)) Q E s :=
  wpAny_truthy_list ⟨_, (N _ hm).1, rfl, _, rfl⟩ (by unfold Small at hz; omega) (by simpa using h)
theorem while_step {w : World} {A : Around} {s : Shared} {R : Result → Shared → Prop} {test : Expr} {body : List Stmt} {env : Env}
    (h : wpAny (model PR w) A (isTrue test env (eval test env)) (fun b s₂ =>
        if b then wpAny (model PR w) A (execs body env) (fun f s₃ => match f with
            | .next | .cont => codeAny (model PR w) A (.whileLoop test body [] env) R s₃
            | .brk => R (.ok .next) s₃
            | .ret v => R (.ok (.ret v)) s₃) (notedBy (model PR w) A env fun e s' => R (.error e) s') s₂
        else wpAny (model PR w) A (execs [] env) (fun f s₃ => R (.ok f) s₃) (notedBy (model PR w) A env fun e s' => R (.error e) s') s₂)
        (notedBy (model PR w) A env fun e s' => R (.error e) s') s) :
    codeAny (model PR w) A (.whileLoop test body [] env) R s := by
  refine codeAny_loop' rfl (fun _ s' => s' = s) (fun n s' hI => ?_) 0 rfl
  subst hI
  show wpAny _ A ((whileTurn test body [] env).onRaise (fun x => do noteFrame x env; theTreesLotGoes x)) _ _ s'
  refine wpAny_noted ?_
  simp only [whileTurn]
  refine wpAny_bind (wpAny_mono h (fun b s₂ h₂ => ?_) fun _ _ h' => h')
  cases b with
  | false =>
    simp only [Bool.false_eq_true, if_false] at h₂ ⊢
    exact wpAny_bind (wpAny_mono h₂ (fun f s₃ h₃ => wpAny_pure h₃) fun _ _ h' => h')
  | true =>
    simp only [if_true] at h₂ ⊢
    refine wpAny_bind (wpAny_mono h₂ (fun f s₃ h₃ => ?_) fun _ _ h' => h')
    cases f with
    | next => exact wpAny_pure (.inr ⟨rfl, h₃⟩)
    | cont => exact wpAny_pure (.inr ⟨rfl, h₃⟩)
    | brk => exact wpAny_pure h₃
    | ret v => exact wpAny_pure h₃
structure SliceIs (x : Str) (k a c : Nat) (lit : Str) : Prop where
  ex : Txt.slice x (some ((k : Int) + (a : Int))) (some ((k : Int) + (c : Int))) = lit
theorem slice_strC {w : World} {A : Around} {E : Value → Shared → Prop} {s : Shared} {g : Heap} {L : Addr} {m : Str → Option Value} {news : List (Addr × Obj)} {x lit : Str} {t ui uj : Tok} {i j : Int} {k a c : Nat} {value slice : Expr} {Q : Value → Shared → Prop} (F : Fr g L s.heap m) (N : News g L s.heap news) (hs : SliceIs x k a c lit) (hi : i = (k : Int) + (a : Int)) (hj : j = (k : Int) + (c : Int)) (hz : Small x.length)
    (h : ∀ h' t' tk, Fr g L h' m → News g L h' news → Q (.str lit t') { s with heap := h', toks := tk })
    (hs1 : subscripted slice false (.str x t) (.ref s.heap.objs.size) = operate [.ref s.heap.objs.size, .str x t] (getItem (.str x t) (.ref s.heap.objs.size))) (ht : ∀ r, letTemporaryGo value (.str x t) r = pure ()) :
    wpAny (model PR w) A (subscriptTail value slice (.str x t) (.ref s.heap.objs.size)) Q E { s with heap := s.heap.push { cls := .type "slice", data := .fields #[.int i ui, .int j uj, .none] } } := by
  subst hi
  subst hj
  refine slice_strN_ss_len F N (fun h' t' tk F' N' _ => ?_) hs1 ht hz.line
  rw [hs.ex]
  exact h h' t' tk F' N'
end
local macro_rules | `(tactic| walk_at "my_le") => `(tactic| (repeat' (first | exact Nat.le_refl _ | refine Nat.le_succ_of_le ?_)))
local macro_rules | `(tactic| walk_at "my_lo") => `(tactic| exact TokLo.up ‹TokLo _ _› (by walk_at "my_le"))
local macro_rules | `(tactic| walk_at "execs cons") => `(tactic| (k_here; ((with_reducible refine' gen_toks ?h ?_); (case h => walk_at "my_lo")); intro tk hlo))
local macro_rules | `(tactic| walk_at "execs nil") => `(tactic| (k_here; ((with_reducible refine' gen_toks ?h ?_); (case h => walk_at "my_lo")); intro tk hlo))
example : True := by
  k_with "call ref" =>
    (k_here; (with_reducible show wpAny _ _ (call (Value.ref 223) [_]) _ _ _); k_dflt (refine' escape_F ?qGz ?qFz ?qNz ?qhhz ?quz ?qrz ?qez ?qloz ?_; (case qGz => assumption); (case qFz => k_asm); (case qNz => k_asm); (case qhhz => assumption); (case quz => exact units_dd (by assumption)); (case qrz => k_extra "my_room"); (case qez => assumption); (case qloz => walk_at "my_lo"); k_whole); intro _ _ _ _ _ _; (try k_sweep))
  k_with "truthy ref" =>
    (k_here; k_dflt (first | (refine' truthy_push ?qNz ?qmz ?qzz ?_; (case qNz => k_asm); (case qmz => k_mem); (case qzz => assumption)) | (refine' truthy_nil ?qNz ?qmz ?_; (case qNz => k_asm); (case qmz => k_mem))); k_whole)
  k_with "subscriptTail Name UnaryOp ref int" =>
    (k_here; (with_reducible show wpAny _ _ (subscriptTail _ _ (Value.ref _) (Value.int (-1) _)) _ _ _); k_dflt (refine' sub_last ?qk1z ?_ ?qk2z; (case qk1z => exact News.get (by k_asm) (by k_mem)); (case qk2z => exact rfl); k_whole))
  k_with "my_slice" =>
    ((refine' slice_strC ?qFz ?qNz ?qhsz ?qhiz ?qhjz ?qhzz ?_ ?qs1z ?qhtz; (case qFz => k_asm); (case qNz => k_asm); (case qhsz => assumption); (case qhiz => omega); (case qhjz => omega); (case qhzz => assumption); (case qs1z => exact rfl); (case qhtz => exact fun _ => rfl)); intro _ _ _ _ _; (try k_sweep))
  k_with "goC" =>
    repeat' (first
      | ((with_reducible show wpAny _ _ (execs (_ :: _) _) _ _ _); refine hide_cons ?_; intro _ _)
      | ((fail_if_success (with_reducible show wpAny _ _ _ _ _ _)); refine Nx.next (by assumption) _ ?_; (try dsimp only); (try (rename Nx _ _ _ => hz'; clear hz'; rename Flow → Shared → Prop => qz'; clear qz')))
      | ((fail_if_success (with_reducible show wpAny _ _ _ _ _ _)); first | (refine Nx.ret (by assumption) _ _ ?_) | (refine Nx.brk (by assumption) _ ?_) | (refine Nx.cont (by assumption) _ ?_))
      | ((with_reducible show wpAny _ _ (storeName _ _ _) _ _ _); dsimp only) | ((with_reducible show wpAny _ _ (subscriptTail _ _ (Value.str _ _) (Value.int _ _)) _ _ _); k_extra "my_charat"; (try dsimp only)) | ((with_reducible show wpAny _ _ (subscriptTail _ _ (Value.str _ _) (Value.ref _)) _ _ _); k_extra "my_slice"; (try dsimp only)) | (with_reducible refine wpAny_While ?_) | (k_unfold; (try dsimp only)) | walk1 | (dsimp only; walk1) | fail "no step")
  trivial
section
noncomputable def firstDone : Nat → Sre.M → Sre.M
  | 0, m => m.runFor Builtin.Re.reTurnSteps
  | k + 1, m => let m' := m.runFor Builtin.Re.reTurnSteps; if m'.outcome.isSome then m' else firstDone k m'
theorem wp_drive {M : Model} {A : Around} {E : Value → Shared → Prop} {s : Shared} : ∀ (k n : Nat) (m : Sre.M) {Q : Sre.M → Shared → Prop}, k < n → (firstDone k m).outcome.isSome = true → Q (firstDone k m) s → wpAny M A (Builtin.Re.reDrive n m) Q E s
  | _, 0, _, _, hk, _, _ => absurd hk (Nat.not_lt_zero _)
  | k, n + 1, m, Q, hk, ho, hq => by
    show wpAny M A (if (m.runFor Builtin.Re.reTurnSteps).outcome.isSome = true then pure (m.runFor Builtin.Re.reTurnSteps) else (rule "sre.turn" >>= fun _ => Builtin.Re.reDrive n (m.runFor Builtin.Re.reTurnSteps))) Q E s
    cases k with
    | zero =>
      refine KFB.if_so ho (wpAny_pure hq)
    | succ k =>
      unfold firstDone at ho hq
      dsimp only at ho hq
      split
      · rename_i hc
        rw [if_pos hc] at hq
        exact wpAny_pure hq
      · rename_i hc
        rw [if_neg hc] at ho hq
        exact wpAny_bind (wpAny_rule (wp_drive k n _ (by omega) ho hq))
theorem wp_rules {M : Model} {A : Around} {E : Value → Shared → Prop} {s : Shared} (c : Nat → Bool) (f : Nat → String) : ∀ (l : List Nat) {Q : PUnit → Shared → Prop}, Q ⟨⟩ s → wpAny M A (forIn l PUnit.unit (fun i _ => if c i = true then (rule (f i) >>= fun _ => pure (ForInStep.yield PUnit.unit)) else pure (ForInStep.yield PUnit.unit))) Q E s
  | [], _, h => by rw [List.forIn_nil]; exact wpAny_pure h
  | i :: r, _, h => by
    rw [List.forIn_cons]
    refine wpAny_bind ?_
    cases hc : c i with
    | true => exact KFB.if_so rfl (wpAny_bind (wpAny_rule (wpAny_pure (wp_rules c f r h))))
    | false => exact KFB.if_not rfl (wpAny_pure (wp_rules c f r h))
theorem wp_noMatch {M : Model} {A : Around} {E : Value → Shared → Prop} {s : Shared} {m : Sre.M} {Q : Option Sre.M → Shared → Prop} (k : Nat) (hk : k < 1000) (ho : (firstDone k m).outcome = some .failed) (h : Q none s) : wpAny M A (Builtin.Re.reRunToEnd m) Q E s := by
  unfold Builtin.Re.reRunToEnd
  refine wpAny_bind (wp_drive k _ m (Nat.lt_trans hk (by decide)) (by rw [ho]; rfl) ?_)
  refine wpAny_bind ?_
  refine wp_rules _ _ _ ?_
  rw [ho]
  exact wpAny_pure h
noncomputable def reCode : Array Nat := #[14, 14, 4, 1, 1, 9, 0, 64, 0, 1342177280, 0, 0, 0, 0, 0, 17, 0, 13, 11, 9, 0, 64, 0, 1342177280, 0, 0, 0, 0, 0, 17, 1, 1]
theorem no_ab : (firstDone 40 (Sre.forSearch reCode #[97, 98] 1 0 2 false)).outcome = some .failed := by rfl
theorem no_bd : (firstDone 40 (Sre.forSearch reCode #[33, 98, 45, 100] 1 0 4 false)).outcome = some .failed := by rfl
end
section
theorem slot_sub : Slot "re.Pattern" "sub" "re.Pattern.sub" :=
  .of (owner := "re.Pattern") (n := "sub") (by rw [typeLookup_type, builtinLookup_eq_fast]; kernel_rfl) (by decide +kernel) (by decide +kernel) (by decide +kernel)
    (by first | exact .inl (by decide +kernel) | exact .inr (by decide +kernel)) (by rw [isSubtype_type]; kernel_rfl)
theorem entry_sub : entryFor table "re.Pattern.sub" = some Builtin.«re.Pattern.sub» := entryFor_of_tree (by kernel_rfl)
theorem entry_subloop : entryFor table "re.Pattern.sub.loop" = some Builtin.«re.Pattern.sub.loop» := entryFor_of_tree (by kernel_rfl)
theorem args_sub (a b c : Value) : argsOk "re.Pattern.sub" ⟨[a, b, c], []⟩ := by unfold argsOk; kernel_rfl
theorem type_sub : typeOf (.builtin "re.Pattern.sub") = pure (.type "method_descriptor") := by show builtinType _ = _; rw [builtinType_eq_fast]; kernel_rfl
section
variable {w : World} {A : Around} {E : Value → Shared → Prop} {s : Shared}
theorem whole_tgt {h : Heap} (X : (hd.heap_1 w.params).In s.heap) {x : Str} {t : Tok} {Q : Builtin.Re.ReTarget → Shared → Prop} (hq : Q { pattern := .ref 204, string := .str x t, code := reCode, text := x.cps, kind := 0, groups := 1, pos := 0, lim := x.cps.size } s) :
    wpAny (model PR w) A (Builtin.Re.reWholeTarget (.ref 204) (.str x t)) Q E s := by
  have ho := X 204 _ rfl
  have ho2 := X 203 _ rfl
  unfold Builtin.Re.reWholeTarget
  refine wpAny_bind (m := fieldsOf (.ref 204)) ?_
  show wpAny _ _ (load 204 >>= _) _ _ _
  refine wpAny_bind (wpAny_load ho (wpAny_pure ?_))
  refine wpAny_bind (wpAny_of_eq (a := (x.cps, 0)) (by first | rfl | kernel_rfl) ?_)
  dsimp only
  refine KFB.if_not (by rfl) ?_
  refine KFB.if_not (by rfl) ?_
  refine wpAny_bind (wpAny_of_eq (a := ()) (by first | rfl | kernel_rfl) ?_)
  refine wpAny_bind (m := Builtin.Re.reRawItems (.ref 203)) ?_
  unfold Builtin.Re.reRawItems
  refine wpAny_bind (wpAny_seqItems ho2 rfl (wpAny_pure ?_))
  refine wpAny_pure (Eq.mp (congrArg (fun c => Q { pattern := .ref 204, string := .str x t, code := c, text := x.cps, kind := 0, groups := 1, pos := 0, lim := x.cps.size } s) ?_) hq)
  decide +kernel
theorem sub_none (X : (hd.heap_1 w.params).In s.heap) {f : Addr} {of : Obj} {x : Str} {t : Tok} {k : Nat} {Q : Value → Shared → Prop} (hf : s.heap.get? f = some of) (hfc : of.cls = .type "function")
    (hk : k < 1000) (ho : (firstDone k (Sre.forSearch reCode x.cps 1 0 x.cps.size false)).outcome = some .failed) (hx : 0 < x.length) (hz : Small x.length)
    (h : ∀ h' t' tk, (∀ b o, s.heap.get? b = some o → h'.get? b = some o) → Q (.str x t') { s with heap := h', toks := tk }) :
    wpAny (model PR w) A (call (.builtin "re.Pattern.sub") [.ref 204, .ref f, .str x t]) Q E s := by
  have ho4 := X 204 _ rfl
  refine wpAny_call (codeAny_call_builtin slot_sub.plain entry_sub (slot_sub.check _ _ _ _ _ _ _ _ ⟨_, ho4, rfl⟩ (args_sub _ _ _) ?_))
  unfold Builtin.«re.Pattern.sub» Builtin.Re.reSubstitute
  dsimp only
  refine wpAny_bind (wpAny_of_eq (a := [some (.ref f), some (.str x t), none]) (by first | rfl | kernel_rfl) ?_)
  dsimp only
  refine wpAny_bind (wpAny_pure ?_)
  have hcall : typeLookup (.type "function") "__call__" = pure (some (.builtin "function.__call__")) := by rw [typeLookup_type, builtinLookup_eq_fast]; kernel_rfl
  refine wpAny_bind (wpAny_specialOf (T := "function") ⟨of, hf, hfc⟩ hcall ?_)
  refine KFB.if_so rfl ?_
  refine wpAny_bind (wpAny_pure ?_)
  refine KFB.if_so rfl ?_
  refine wpAny_bind (wpAny_pure ?_)
  dsimp only
  refine wpAny_bind (wpAny_holding (whole_tgt (h := s.heap) X ?_))
  refine KFB.if_so rfl ?_
  refine wpAny_bind (m := Builtin.Re.reNotHeld _ _) ?_
  unfold Builtin.Re.reNotHeld
  refine wpAny_bind (wpAny_isInstance (T := "str") (U := "bytearray") (b := false) (typeIs_str _ _ _) (by rw [isSubtype_type]; kernel_rfl) ?_)
  refine KFB.if_not rfl ?_
  refine wpAny_pure ?_
  refine wpAny_bind (wpAny_newObj_type (T := "list") (data := .seq #[] 0) ?_)
  refine wpAny_pure ⟨Code.quiet_builtin _ (by decide +kernel), codeAny_builtin entry_subloop ?_⟩
  have X2 : (hd.heap_1 w.params).In (s.heap.push { cls := .type "list", data := .seq #[] }) := X.keeps fun b o e => Heap.get?_push_of_some _ e
  have hL : (s.heap.push { cls := .type "list", data := .seq #[] }).get? s.heap.objs.size = some (lstObj #[] 0) := Heap.get?_push_size _ rfl
  unfold Builtin.«re.Pattern.sub.loop»
  dsimp only [rawInt]
  refine wpAny_bind (whole_tgt (h := s.heap) X2 ?_)
  refine KFB.if_not rfl ?_
  refine wpAny_bind (KFB.if_not rfl ?_)
  show wpAny _ _ (Builtin.Re.reRunToEnd _) _ _ _
  refine wp_noMatch k hk ho ?_
  dsimp only
  have hlt : (0 : Int).toNat < x.cps.size := hx
  rw [if_pos hlt]
  have ex : (⟨x.cps.extract (0 : Int).toNat x.cps.size⟩ : Str) = x := by
    show (⟨x.cps.extract 0 x.cps.size⟩ : Str) = x
    rw [Array.extract_size]
  have ex0 : (⟨x.cps.extract 0 0⟩ : Str) = "" := by
    have : x.cps.extract 0 0 = #[] := by simp
    rw [this]; rfl
  refine wpAny_bind (m := Builtin.Re.reSlice _ _ _ _) ?_
  unfold Builtin.Re.reSlice
  refine KFB.if_so rfl ?_
  rw [ex]
  refine wpAny_mkStr ?_ hz.line
  refine wpAny_bind (wpAny_updateSeq hL rfl ?_)
  refine wpAny_bind (KFB.if_so rfl ?_)
  rw [ex0]
  refine wpAny_mkStr ?_ (by rw [sizeLine_eq]; decide)
  have hL2 : ((s.heap.push { cls := .type "list", data := .seq #[] }).update s.heap.objs.size (Obj.mapSeq (·.push (.str x s.toks)))).get? s.heap.objs.size = some (lstObj #[.str x s.toks] 1) := by
    rw [Heap.get?_update_self _ hL (by rfl)]; rfl
  dsimp only
  refine wpAny_bind (wpAny_seqItems hL2 rfl ?_)
  refine KFB.if_not (by rfl) ?_
  refine wpAny_bind ?_
  have hj : Txt.join "" [x] = x := by
    show PySem.Builtin.Str.glued "" [x] = x
    rw [StrLaws.glued_eq_join]; rfl
  refine SC.join (x := "") (l := [(x, s.toks)]) (texts := [x]) ⟨_, hL2, rfl, _, rfl⟩ rfl (by
    unfold JoinOk Builtin.Str.tooLong
    have h1 : x.length ≤ 1000 := hz
    simp [sizeLine_eq]
    show x.length + 0 ≤ 16777216
    omega) fun t' tk => ?_
  rw [hj]
  refine KFB.if_not rfl ?_
  refine wpAny_pure (h _ _ _ ?_)
  intro b o e
  have hb : @Ne Nat b s.heap.objs.size := Nat.ne_of_lt (Heap.lt_size e)
  exact ((Heap.SameBut.update ..).2 b hb).trans (Heap.get?_push_of_some _ e)
end
end
section
theorem plainAttrs_pat : PlainAttrs "re.Pattern" :=
  ⟨⟨"object.__getattribute__", by rw [typeLookup_type, builtinLookup_eq_fast]; kernel_rfl, by decide +kernel⟩, by rw [typeLookup_type, builtinLookup_eq_fast]; kernel_rfl⟩
theorem getm_sub {w : World} {A : Around} {E : Value → Shared → Prop} {s : Shared} {g : Heap} {L : Addr} {m : Str → Option Value} {p : Program} {loose : List Str} {mg mb : Str → Option Value} {pl : Sem Bool} {Q : Value × List Value → Shared → Prop} (G : Gd w p loose mg mb g) (F : Fr g L s.heap m) (h : Q (.builtin "re.Pattern.sub", [.ref 204]) s) : wpAny (model PR w) A (getMethod (.ref 204) "sub" pl) Q E s := by
  have ho := (G.K.keeps F.keep) 204 _ rfl
  exact getMethod_builtin (T := "re.Pattern") ⟨_, ho, rfl⟩ plainAttrs_pat slot_sub type_sub (fun a e => by cases e; exact ⟨_, ho, rfl⟩) h
noncomputable def TokPos (n : Nat) : Prop := 0 < n
theorem tok_ne0 {n t : Nat} (h : TokPos n) (k : TokLo n t) : t ≠ 0 := by
  have := k.le
  unfold TokPos at h
  omega
theorem notIn_lit {w : World} {A : Around} {E : Value → Shared → Prop} {s : Shared} {x y : Str} {t u : Tok} {b : Bool} {Q : Value → Shared → Prop} (hb : (!(!(Builtin.Str.occurrences x y 0 x.length 1).isEmpty)) = b) (h : Q (.bool b) s) : wpAny (model PR w) A (compareOp .NotIn (.str y u) (.str x t)) Q E s :=
  P.notIn_str (by rw [hb]; exact h)
theorem replace_lit {w : World} {A : Around} {E : Value → Shared → Prop} {s : Shared} {x y z lit : Str} {t u : Tok} {n0 : Nat} {Q : Value → Shared → Prop} (hp : TokPos n0) (hu : TokLo n0 u) (hyz : (y == z) = false) (hb : x.length + (x.length + 1) * z.length ≤ 16777216) (hr : Txt.replace x y z = lit)
    (hq : ∀ t' k, Q (.str lit t') { s with toks := k }) : wpAny (model PR w) A (call (.builtin "str.replace") [.str x t, .str y u, .str z (u + 1)]) Q E s :=
  SC.replace (tok_ne0 hp hu) (Nat.succ_ne_zero _) (Nat.ne_of_lt (Nat.lt_succ_self _)) hyz hb (by rw [hr]; exact hq)
theorem lam_F {w : World} {A : Around} {E : Value → Shared → Prop} {s : Shared} {g : Heap} {L a c P : Addr} {m mg mb : Str → Option Value} {p : Program} {loose : List Str} {news : List (Addr × Obj)} {newsF : Array Value → List (Addr × Obj)} {tb : Array Value} {cn : Str} {cs scope : Scope} {cl clos : List (Str × Addr)} {params : Arguments} {body : Expr} {pos : Pos} {n0 : Nat} {Q : Value → Shared → Prop}
    (G : Gd w p loose mg mb g) (F : Fr g L s.heap m) (N : News g L s.heap news) (hm : (P, tabObj tb) ∈ news) (ht : TriplesOk tb.toList) (U : ∀ tb', Upd P (tabObj tb) (tabObj tb') news (newsF tb')) (C : CodeHd s.heap c P)
    (hdef : defaultsOf params (envX cn cs L a (.ref c) cl) = ([], [])) (hcl : closureFor scope (envX cn cs L a (.ref c) cl) = pure clos) (hlo : TokLo n0 s.toks)
    (h : ∀ f of h' tk tb', TriplesOk tb'.toList → of.cls = .type "function" → Fr g L h' m → News g L h' ((f, of) :: newsF tb') → (∀ p ∈ news, @Ne Nat p.1 f) → TokLo n0 tk → Q (.ref f) { s with heap := h', toks := tk }) :
    wpAny (model PR w) A (eval (.Lambda params body scope pos) (envX cn cs L a (.ref c) cl)) Q E s := by
  have hP := N (P, tabObj tb) hm
  have hgs := G.T.g.keeps F.keep
  obtain ⟨bm, ob, b1, b2, b3, b4, b5, b6⟩ := G.B
  have hgP : mainGlobals ≠ P := fun q => by
    obtain ⟨o, es, ep, e, hd, _⟩ := hgs
    rw [q, hP.1] at e; cases e; cases hd
  have hbP : bm ≠ P := fun q => by
    have e := F.keep _ _ b3
    rw [q, hP.1] at e; cases e; cases b4
  have hbG : bm ≠ mainGlobals := fun q => by
    obtain ⟨o, es, ep, e, hd, _⟩ := G.T.g
    rw [q, e] at b3; cases b3; rw [hd] at b6; cases b6
  have hb : s.heap.BuiltinsAt mg P := ⟨bm, ob, b1, b2, hbG, hbP, F.keep _ _ b3, b4, b5, b6⟩
  have fin : ∀ (h' : Heap) (of : Obj) (tk : Nat) (tb' : Array Value), of.cls = .type "function" → of.isFreed = false → TriplesOk tb'.toList → Heap.ExtBut P s.heap h' → h'.get? P = some (tabObj tb') → s.heap.objs.size ≤ h'.objs.size → s.toks ≤ tk →
      Q (.ref h'.objs.size) { s with heap := h'.push of, toks := tk } := fun h' of tk tb' hc hfr htr hx hp hsz hle => by
    have F1 : Fr g L h' m := ⟨F.ns.at' fun o e => hx _ o hP.2.1.symm e, fun b o e => hx b o (fun q => by have q' : b = P := q; rw [q', hP.2.2] at e; cases e) (F.keep b o e), F.above⟩
    obtain ⟨pre, post, e1, e2, p1, p2⟩ := (U tb').split
    have N1 : News g L h' (newsF tb') := by
      rw [e2]
      intro q hq
      rcases List.mem_append.mp hq with hq | hq
      · have z := N q (by rw [e1]; exact List.mem_append.mpr (.inl hq))
        exact ⟨hx _ _ (p1 q hq) z.1, z.2⟩
      · rcases List.mem_cons.mp hq with rfl | hq
        · exact ⟨hp, hP.2⟩
        · have z := N q (by rw [e1]; exact List.mem_append.mpr (.inr (.tail _ hq)))
          exact ⟨hx _ _ (p2 q hq) z.1, z.2⟩
    exact h _ of _ tk tb' htr hc (F1.push of) (News.push F1 N1 of hfr) (fun q hq => Nat.ne_of_lt (Nat.lt_of_lt_of_le (Heap.lt_size (N q hq).1) hsz)) (hlo.up hle)
  refine wpAny_tok ?_
  refine kla_eval hdef ?_
  cases hf : codeAmong pos tb.toList with
  | some cv => exact kla_makeFunctionHit (mg := mg) hcl rfl hgs rfl C hP.1 ht hf hb fun ctv h' tk hk hsz hle => fin h' _ tk tb rfl rfl ht (fun b o _ e => hk b o e) (hk _ _ hP.1) hsz hle
  | none => exact kla_makeFunction (mg := mg) hcl rfl hgs rfl C hP.1 ht hf hgP hb fun c' ctv h' tk hx hge hlt hrec htb hle => fin h' _ tk _ rfl rfl (by rw [Array.toList_append]; exact TriplesOk_snoc _ _ _ _ ht) hx htb (Nat.le_trans hge (Nat.le_of_lt hlt)) hle
theorem sub_F {w : World} {A : Around} {E : Value → Shared → Prop} {s : Shared} {g : Heap} {L f : Addr} {m mg mb : Str → Option Value} {p : Program} {loose : List Str} {news : List (Addr × Obj)} {of : Obj} {x : Str} {t : Tok} {n0 : Nat} {Q : Value → Shared → Prop} (G : Gd w p loose mg mb g) (F : Fr g L s.heap m) (N : News g L s.heap news) (hm : (f, of) ∈ news) (hc : of.cls = .type "function")
    (ho : (firstDone 40 (Sre.forSearch reCode x.cps 1 0 x.cps.size false)).outcome = some .failed) (hx : 0 < x.length) (hz : Small x.length) (hlo : TokLo n0 s.toks)
    (h : ∀ h' t' tk, Fr g L h' m → News g L h' news → TokLo n0 tk → Q (.str x t') { s with heap := h', toks := tk }) :
    wpAny (model PR w) A (call (.builtin "re.Pattern.sub") [.ref 204, .ref f, .str x t]) Q E s := by
  refine wpAny_tok ?_
  exact sub_none (G.K.keeps F.keep) (N _ hm).1 hc (k := 40) (by decide) ho hx hz fun h' t' tk k hle => h h' t' tk (fr_all F k) (news_all N k) (hlo.up hle)
theorem slice_lo {w : World} {A : Around} {E : Value → Shared → Prop} {s : Shared} {g : Heap} {L : Addr} {m : Str → Option Value} {news : List (Addr × Obj)} {x lit : Str} {t ui uj : Tok} {i j : Int} {k a c n0 : Nat} {value slice : Expr} {Q : Value → Shared → Prop} (F : Fr g L s.heap m) (N : News g L s.heap news) (hs : SliceIs x k a c lit) (hi : i = (k : Int) + (a : Int)) (hj : j = (k : Int) + (c : Int)) (hz : Small x.length) (hlo : TokLo n0 s.toks)
    (h : ∀ h' t' tk, Fr g L h' m → News g L h' news → TokLo n0 tk → Q (.str lit t') { s with heap := h', toks := tk })
    (hs1 : subscripted slice false (.str x t) (.ref s.heap.objs.size) = operate [.ref s.heap.objs.size, .str x t] (getItem (.str x t) (.ref s.heap.objs.size))) (ht : ∀ r, letTemporaryGo value (.str x t) r = pure ()) :
    wpAny (model PR w) A (subscriptTail value slice (.str x t) (.ref s.heap.objs.size)) Q E { s with heap := s.heap.push { cls := .type "slice", data := .fields #[.int i ui, .int j uj, .none] } } := by
  refine wpAny_tok ?_
  exact slice_strC F N hs hi hj hz (fun h' t' tk F' N' hle => h h' t' tk F' N' (hlo.up hle)) hs1 ht
theorem replace_lo {w : World} {A : Around} {E : Value → Shared → Prop} {s : Shared} {x y z lit : Str} {t u : Tok} {n0 : Nat} {Q : Value → Shared → Prop} (hp : TokPos n0) (hu : TokLo n0 u) (hlo : TokLo n0 s.toks) (hyz : (y == z) = false) (hb : x.length + (x.length + 1) * z.length ≤ 16777216) (hr : Txt.replace x y z = lit)
    (hq : ∀ t' k, TokLo n0 k → Q (.str lit t') { s with toks := k }) : wpAny (model PR w) A (call (.builtin "str.replace") [.str x t, .str y u, .str z (u + 1)]) Q E s := by
  refine wpAny_tok ?_
  exact replace_lit hp hu hyz hb hr fun t' k hle => hq t' k (hlo.up hle)
theorem replace_same {w : World} {A : Around} {E : Value → Shared → Prop} {s : Shared} {x y z : Str} {t u : Tok} {n0 : Nat} {Q : Value → Shared → Prop} (hp : TokPos n0) (hu : TokLo n0 u) (hlo : TokLo n0 s.toks) (hyz : (y == z) = false) (hb : x.length + (x.length + 1) * z.length ≤ 16777216) (hr : Txt.replace x y z = x)
    (hq : ∀ t' k, TokLo n0 k → Q (.str x t') { s with toks := k }) : wpAny (model PR w) A (call (.builtin "str.replace") [.str x t, .str y u, .str z (u + 1)]) Q E s := replace_lo hp hu hlo hyz hb hr hq
theorem news3 {g h : Heap} {L : Addr} {a b c : Addr × Obj} (ha : h.get? a.1 = some a.2 ∧ a.1 ≠ L ∧ g.get? a.1 = none) (hb : h.get? b.1 = some b.2 ∧ b.1 ≠ L ∧ g.get? b.1 = none) (hc : h.get? c.1 = some c.2 ∧ c.1 ≠ L ∧ g.get? c.1 = none) : News g L h [a, b, c] := by
  intro p hp
  rcases List.mem_cons.mp hp with rfl | hp
  · exact ha
  rcases List.mem_cons.mp hp with rfl | hp
  · exact hb
  rcases List.mem_singleton.mp hp with rfl
  exact hc
end
section
structure FindIs (x y : Str) (lo hi : Nat) (r : Int) : Prop where
  ex : (match Builtin.Str.occurrences x y lo hi 1 with | i :: _ => (i : Int) | [] => -1) = r
theorem gives_find4 (x y : Str) (i j : Int) (t u v v2 : Tok) : Gives (Builtin.«str.find» ⟨[.str x t, .str y u, .int i v, .int j v2], []⟩) (.int (match Builtin.Str.occurrences x y (fromIndex x.length i) (min (fromIndex x.length j) x.length) 1 with | k :: _ => (k : Int) | [] => -1)) := by
  show Gives (match Builtin.Str.occurrences x y (fromIndex x.length i) (min (fromIndex x.length j) x.length) 1 with | k :: _ => retInt k | [] => (do rule "str.find.not-found"; retInt (-1))) _
  cases Builtin.Str.occurrences x y (fromIndex x.length i) (min (fromIndex x.length j) x.length) 1 with
  | nil => exact .rule (.of_eq rfl)
  | cons k _ => exact .of_eq rfl
theorem find_rule {w : World} {A : Around} {E : Value → Shared → Prop} {s : Shared} {x y : Str} {t u v v2 : Tok} {i j r : Int} {k a c : Nat} {Q : Value → Shared → Prop} (hf : FindIs x y (k + a) (k + c) r) (hi : i = (k : Int) + (a : Int)) (hj : j = (k : Int) + (c : Int)) (hc : k + c ≤ x.length)
    (h : Q (.int r s.toks) { s with toks := s.toks + 1 }) : wpAny (model PR w) A (call (.builtin "str.find") [.str x t, .str y u, .int i v, .int j v2]) Q E s := by
  have e1 : fromIndex x.length i = k + a := by subst hi; exact om_from _ (k + a)
  have e2 : min (fromIndex x.length j) x.length = k + c := by subst hj; exact (congrArg (fun n => min n x.length) (om_from _ (k + c))).trans (Nat.min_eq_left hc)
  refine call_gives PySem.F.slot_str_find (typeIs_str _ _ _) PySem.F.entry_str_find (PySem.F.args_str_find_4 _ _ _ _) (gives_find4 x y i j t u v v2) ?_
  rw [e1, e2, hf.ex]
  exact h
theorem gt_lit {w : World} {A : Around} {E : Value → Shared → Prop} {s : Shared} {x y : Str} {t u : Tok} {b : Bool} {Q : Value → Shared → Prop} (hb : decide (y.cps.toList < x.cps.toList) = b) (h : Q (.bool b) s) : wpAny (model PR w) A (compareOp .Gt (.str x t) (.str y u)) Q E s :=
  P.gt_str (by rw [hb]; exact h)
theorem sub_fst {w : World} {A : Around} {E : Value → Shared → Prop} {s : Shared} {l : Addr} {a b : Value} {n : Nat} {value slice : Expr} {i : Int} {u : Tok} {Q : Value → Shared → Prop} (hl : s.heap.get? l = some (lstObj ((#[].push a).push b) n)) (hi : i = 0) (h : Q a s) (hs : subscripted slice false (.ref l) (.int i u) = operate [.ref l, .int i u] (getItem (.ref l) (.int i u))) :
    wpAny (model PR w) A (subscriptTail value slice (.ref l) (.int i u)) Q E s := by
  subst hi
  exact sub_list hl (by decide) (by decide) (x := a) rfl h hs
theorem sub_snd {w : World} {A : Around} {E : Value → Shared → Prop} {s : Shared} {l : Addr} {a b : Value} {n : Nat} {value slice : Expr} {i : Int} {u : Tok} {Q : Value → Shared → Prop} (hl : s.heap.get? l = some (lstObj ((#[].push a).push b) n)) (hi : i = 1) (h : Q b s) (hs : subscripted slice false (.ref l) (.int i u) = operate [.ref l, .int i u] (getItem (.ref l) (.int i u))) :
    wpAny (model PR w) A (subscriptTail value slice (.ref l) (.int i u)) Q E s := by
  subst hi
  exact sub_list hl (by decide) (by decide) (x := b) rfl h hs
end
section
section
variable {w : World} {A : Around} {E : Value → Shared → Prop} {s : Shared} {p : Program} {loose : List Str} {mg mb : Str → Option Value}
theorem genStrs {env : Env} {elt iter : Expr} {x : Str} {px : Pos} {scope : Scope} {pos : Pos} {Q : Value → Shared → Prop} {l : Addr} {its : Array Value} {n : Nat} {c P : Addr} {tb : Array Value} {F : Nat → Value → Prop}
    (hh : A.handled = none) (T : TopRead p loose mg mb s.heap) (B : BM mg s.heap) (hl : s.heap.get? l = some (lstObj its n))
    (hcode : env.code = .ref c) (C : CodeHd s.heap c P) (hP : s.heap.get? P = some (tabObj tb)) (ht : TriplesOk tb.toList) (hPG : P ≠ mainGlobals) (hPB : P ≠ builtinsNs) (hPS : P ≠ cStatics)
    (hgl : env.globals = mainGlobals) (hbi : env.builtins = builtinsNs)
    (hco : scope.isCoroutine = false) (hclos : closureFor scope env = pure []) (hcell : ∀ y ∈ scope.names, y.2 ≠ .cell) (h0 : scope.names.lookup (".0" : Str) = some NameKind.local)
    (hx : scope.names.lookup x = some .local) (hkind : scope.kind = .function) (hroom : A.depth < recursionLimit)
    (hev : ∀ {Q' : Value → Shared → Prop}, Q' (.ref l) s → wpAny (model PR w) A (eval iter env) Q' E s)
    (hq : ∀ (L : Addr) (code : Value) (A' : Around) E' (i : Nat) (v : Value) (u : Shared) m₂, A'.handled = none → A'.depth ≤ A.depth + 1 → A'.units ≤ A.units + 8 → its[i]? = some v → u.heap.Ns L m₂ → m₂ x = some v →
      wpAny (model PR w) A' (eval elt (genEnv scope [] L code builtinsNs env)) (fun y s₃ => F i y ∧ Keeps u s₃) E' u)
    (hQ : ∀ a s₅ fp wr G St, AllBare s.gens → (∀ b ∈ fp, b < s₅.heap.objs.size) → a ∈ fp → (∀ i u, St i u → u.TypeIs (.ref a) "generator") → WalksS PR w A.in4 a fp wr G its.size (fun j y => j < its.size ∧ F j y) St → St 0 s₅ →
      (∀ u, Moved wr G s₅ u → (∀ b o, b ≠ P → s.heap.get? b = some o → u.heap.get? b = some o) ∧ (∃ tb', u.heap.get? P = some (tabObj tb') ∧ TriplesOk tb'.toList) ∧ AllBare u.gens ∧ u.drawn = s.drawn ∧ u.os = s.os) → Q (.ref a) s₅)
    (hB : AllBare s.gens)
    (hs : ∀ x, genFold iter env x = pure x) :
    wpAny (model PR w) A (eval (.GeneratorExp elt [⟨.Name x px, iter, [], 0⟩] scope pos) env) Q E s := by
  have hPl := Heap.lt_size hP
  refine wpAny_GeneratorExp_walksQD hh hco hclos hcell h0 hx hkind hroom (hev ?_) hs
  refine wpAny_pyIter_list ⟨_, hl, rfl, _, rfl⟩ ⟨T.nolimit.keeps fun b o e => Heap.get?_push_of_some _ e, ?_⟩
  have k1 : ∀ b o, s.heap.get? b = some o → (s.heap.push { cls := .type "list_iterator", data := .fields #[.ref l, .int 0 0] }).get? b = some o := fun b o e => Heap.get?_push_of_some _ e
  have hI : (s.heap.push { cls := .type "list_iterator", data := .fields #[.ref l, .int 0 0] }).get? s.heap.objs.size = some { cls := .type "list_iterator", data := .fields #[.ref l, .int 0 0] } := Heap.get?_push_size _ rfl
  refine genCode hcode (C.keeps k1) (k1 _ _ hP) ht fun code h4 tk4 tb' hx4 hP4 ht4 => ?_
  have k4 : ∀ b o, b ≠ P → s.heap.get? b = some o → h4.get? b = some o := fun b o hb e => hx4 b o hb (k1 b o e)
  have hIP : s.heap.objs.size ≠ P := Nat.ne_of_gt hPl
  have hI4 : h4.get? s.heap.objs.size = some { cls := .type "list_iterator", data := .fields #[.ref l, .int 0 0] } := hx4 _ _ hIP hI
  obtain ⟨bm, ob, b1, b2, b3, b4, b5, b6⟩ := B
  have hobP : bm ≠ P := fun q => by rw [q, hP] at b3; cases b3; cases b4
  have nsk : ∀ {a : Addr} {mm : Str → Option Value}, s.heap.Ns a mm → a ≠ P → h4.Ns a mm := fun x hne => by
    obtain ⟨o, es, ep, e, hd, r⟩ := x
    exact ⟨o, es, ep, k4 _ _ hne e, hd, r⟩
  rw [hgl, hbi]
  refine wpAny_builtinsFor (nsk T.g (Ne.symm hPG)) b1 b2 (k4 _ _ hobP b3) b4 b5 b6 ?_
  have hlim4 : h4.NoLimit := by
    obtain ⟨mc, hn, hno⟩ := T.nolimit
    exact ⟨mc, nsk hn (Ne.symm hPS), hno⟩
  have hlP : l ≠ P := fun q => by rw [q, hP] at hl; cases hl
  have hlI : l ≠ s.heap.objs.size := Nat.ne_of_lt (Heap.lt_size hl)
  have hsz4 : ∀ b o, h4.get? b = some o → b < h4.objs.size := fun b o e => Heap.lt_size e
  refine ⟨s.heap.objs.size, [s.heap.objs.size, l], [s.heap.objs.size], its.size, fun j v => its[j]? = some v, _, fun _ => true, F, rfl, fun A' hA' => Walks.list hA' s.heap.objs.size l hlI its, ?_, ?_, hlim4, ?_, ?_, ?_⟩
  · exact ⟨⟨_, hI4, rfl, rfl⟩, ⟨_, k4 _ _ hlP hl, rfl, _, rfl⟩⟩
  · intro b hb
    rcases List.mem_cons.mp hb with rfl | hb
    · exact hsz4 _ _ hI4
    · rcases List.mem_singleton.mp hb with rfl
      exact hsz4 _ _ (k4 _ _ hlP hl)
  · intro hm
    rcases List.mem_cons.mp hm with e | e
    · obtain ⟨mc, hn, _⟩ := T.nolimit
      exact absurd hn.lt (by rw [e]; exact Nat.lt_irrefl _)
    · cases e
  · intro href hk
    exact ⟨fun A' E' i v s₂ m₂ _ _ _ _ _ _ _ => wpAny_pure ⟨rfl, _, _, rfl, fun _ _ e => e⟩, fun A' E' i v u m₂ hA' hD hU hPt _ hn ma hkp => hq _ code A' E' i v u m₂ hA' hD hU hPt hn ma⟩
  · intro a h₅ tk gs hgs ha5 hs5 hk5 W St
    rw [passing_all, List.length_range] at W
    have hkk : ∀ b o, b ≠ P → s.heap.get? b = some o → h₅.get? b = some o := fun b o hb e => hk5 b o (k4 b o hb e)
    refine hQ a _ _ _ _ _ hB (fun b hb => ?_) (.head _) (fun i u x => ?_) (walksWeak W rfl fun i v hi h => ?_) St (fun u hm => ?_)
    · have e1 : @LT.lt Nat _ h4.objs.size a := ha5
      have e2 : h₅.objs.size = a + 1 := hs5
      show @LT.lt Nat _ b h₅.objs.size
      rcases List.mem_cons.mp hb with e | hb
      · rw [e, e2]; exact Nat.lt_succ_self _
      · rcases List.mem_cons.mp hb with e | hb
        · have e : b = h4.objs.size := e
          rw [e, e2]; exact Nat.lt_succ_of_lt e1
        · have hb : @LT.lt Nat _ b h4.objs.size := List.mem_range.mp hb
          rw [e2]; exact Nat.lt_succ_of_lt (Nat.lt_trans hb e1)
    · exact x.1.typeIs
    · obtain ⟨j, hj, hF⟩ := h
      rw [List.getElem?_range hi] at hj
      cases hj
      exact ⟨hi, hF⟩
    · have hw : ∀ b, b < s.heap.objs.size → b < h4.objs.size → b ∉ ([h4.objs.size, s.heap.objs.size] : List Addr) := fun b h1 h2 hmem => by
        rcases List.mem_cons.mp hmem with e | hmem
        · omega
        · rcases List.mem_cons.mp hmem with e | hmem
          · omega
          · cases hmem
      refine ⟨fun b o hb e => hm.heap b o (hw b (Heap.lt_size e) (Heap.lt_size (k4 b o hb e))) (hkk b o hb e), ⟨tb', hm.heap P _ (hw P hPl (Heap.lt_size hP4)) (hk5 _ _ hP4), ht4⟩, ?_, hm.drawn, hm.os⟩
      exact AllBare.moved (hB.push hgs) hm.gens
end
theorem replace_nothing {w : World} {A : Around} {E : Value → Shared → Prop} {s : Shared} {x y z : Str} {t u v : Tok} {Q : Value → Shared → Prop} (hc : (Builtin.Str.occurrences x y 0 x.length (x.length + 1)).isEmpty = true)
    (hq : Q (.str x t) s) : wpAny (model PR w) A (call (.builtin "str.replace") [.str x t, .str y u, .str z v]) Q E s := by
  refine call_gives PySem.F.slot_str_replace (typeIs_str _ _ _) PySem.F.entry_str_replace (PySem.F.args_str_replace_3 _ _ _) (gives_str_replace x y z t u v fun h => by rw [hc] at h; cases h) ?_
  rw [hc]
  exact hq
theorem two_at {a b v : Value} {i : Nat} (h : ((#[].push a).push b : Array Value)[i]? = some v) : (i = 0 ∧ v = a) ∨ (i = 1 ∧ v = b) := by
  match i, h with
  | 0, h => exact .inl ⟨rfl, (Option.some.inj h).symm⟩
  | 1, h => exact .inr ⟨rfl, (Option.some.inj h).symm⟩
  | n + 2, h => cases h
theorem two_strs {l : List (Str × Tok)} {x y : Str} {n : Nat} (e : n = 2) (h : ItemsOf (fun j v => j < n ∧ ∃ t, v = .str (([x, y] : List Str).getD j default) t) (strValues l).toArray n) : l.map (·.1) = [x, y] := by
  subst e
  have hl1 : l.length = 2 := by have := h.1; simpa [strValues] using this
  match l, hl1, h with
  | [p, q], _, h =>
    obtain ⟨_, t, e⟩ := h.2 0 (.str p.1 p.2) (by simp [strValues])
    obtain ⟨_, t', e'⟩ := h.2 1 (.str q.1 q.2) (by simp [strValues])
    injection e with e1 _
    injection e' with e2 _
    simp only [List.map_cons, List.map_nil, e1, e2]
    rfl
theorem gen_moved {Goal : Prop} {g h h' : Heap} {L : Addr} {m : Str → Option Value} {news news' : List (Addr × Obj)} {P : Addr} {tb tb' : Array Value} (F : Fr g L h m) (N : News g L h news) (hm : (P, tabObj tb) ∈ news) (U : Upd P (tabObj tb) (tabObj tb') news news')
    (fr : ∀ b o, b ≠ P → h.get? b = some o → h'.get? b = some o) (hP : h'.get? P = some (tabObj tb')) (k : Fr g L h' m → News g L h' news' → Goal) : Goal := by
  have z := N _ hm
  refine k ⟨F.ns.at' fun o e => fr _ o (Ne.symm z.2.1) e, fun b o e => fr b o (fun q => by rw [q, z.2.2] at e; cases e) (F.keep b o e), F.above⟩ ?_
  obtain ⟨pre, post, e1, e2, p1, p2⟩ := U.split
  rw [e2]
  intro q hq
  rcases List.mem_append.mp hq with hq | hq
  · have z := N q (by rw [e1]; exact List.mem_append.mpr (.inl hq))
    exact ⟨fr _ _ (p1 q hq) z.1, z.2⟩
  · rcases List.mem_cons.mp hq with rfl | hq
    · exact ⟨hP, z.2⟩
    · have z := N q (by rw [e1]; exact List.mem_append.mpr (.inr (.tail _ hq)))
      exact ⟨fr _ _ (p2 q hq) z.1, z.2⟩
end
section
theorem slice_mid {x : Str} {a b : Nat} (hab : a ≤ b) (hb : b ≤ x.length) (hs : b - a < x.length) : Txt.slice x (some (a : Int)) (some (b : Int)) = ⟨((x.cps.toList.drop a).take (b - a)).toArray⟩ := by
  unfold Txt.slice
  rw [StrLaws.sliced_plain x hab hb, StrLaws.strSliceIndices_plain hab hb]
  simp only [List.length_map, List.length_range]
  rw [if_neg]
  simp only [beq_self_eq_true, Bool.true_and, beq_iff_eq]
  omega
theorem slice_of {a b c lit : Str} {i j : Nat} (hij : i ≤ j) (hj : j ≤ b.length) (hl : j - i < b.length) (e : (⟨((b.cps.toList.drop i).take (j - i)).toArray⟩ : Str) = lit) : SliceIs (a ++ (b ++ c)) a.length i j lit := by
  have hb : b.length = b.cps.toList.length := by rw [Array.length_toList]; rfl
  have ha : a.length = a.cps.toList.length := by rw [Array.length_toList]; rfl
  refine ⟨?_⟩
  rw [show ((a.length : Int) + (i : Int)) = ((a.length + i : Nat) : Int) from by omega, show ((a.length : Int) + (j : Int)) = ((a.length + j : Nat) : Int) from by omega]
  rw [slice_mid (Nat.add_le_add_left hij _) (by rw [Str.length_append, Str.length_append]; exact Nat.add_le_add_left (Nat.le_trans hj (Nat.le_add_right _ _)) _) (by rw [Str.length_append, Str.length_append, Nat.add_sub_add_left]; exact Nat.lt_of_lt_of_le hl (Nat.le_trans (Nat.le_add_right _ _) (Nat.le_add_left _ _))), ← e]
  congr 2
  rw [Str.cps_append, Str.cps_append, Array.toList_append, Array.toList_append, ha, List.drop_append, List.drop_append]
  rw [Nat.add_sub_add_left, Nat.add_sub_cancel_left, List.drop_of_length_le (Nat.le_add_right _ _ : a.cps.toList.length ≤ a.cps.toList.length + i), List.nil_append, List.take_append_of_le_length (by rw [List.length_drop, ← hb]; exact Nat.sub_le_sub_right hj _)]
theorem occ_full (s sub : Str) (hi : Nat) : ∀ (l : List Nat) (st : Array Nat × Nat), st.fst.size = 1 → (forIn l st (StrLaws.occBody s sub hi 1)).run.fst = st.fst
  | [], st, h => rfl
  | a :: l, st, h => by
    rw [List.forIn_cons]
    unfold StrLaws.occBody
    rw [if_neg (fun q => by have := q.1.1.1; omega)]
    exact occ_full s sub hi l st h
theorem find_here {x y : Str} {i hi : Nat} (h : i + y.length ≤ hi) (hs : Builtin.Str.subAt x y i = true) : Builtin.Str.occurrences x y i hi 1 = [i] := by
  rw [StrLaws.occ_eq, show hi + 1 - i = (hi - i) + 1 from om_succ_sub h, List.range'_succ, List.forIn_cons]
  have e : StrLaws.occBody x y hi 1 i (#[], i) = pure (ForInStep.yield (#[i], i + y.length)) := by
    unfold StrLaws.occBody
    rw [if_pos ⟨⟨⟨Nat.zero_lt_one, Nat.le_refl _⟩, h⟩, hs⟩]
    rfl
  rw [e]
  show (forIn _ ((#[i], i + y.length) : Array Nat × Nat) (StrLaws.occBody x y hi 1)).run.fst.toList = _
  rw [occ_full _ _ _ _ _ rfl]
theorem find_beyond {x y : Str} {i hi : Nat} (h : hi < i) : Builtin.Str.occurrences x y i hi 1 = [] := by
  rw [StrLaws.occ_eq, show hi + 1 - i = 0 from by omega]
  rfl
theorem subAt_of {a b c sub : Str} {i : Nat} (hj : i + sub.length ≤ b.length) (e : Builtin.Str.subAt b sub i = true) : Builtin.Str.subAt (a ++ (b ++ c)) sub (a.length + i) = true := by
  have hb : b.length = b.cps.toList.length := by rw [Array.length_toList]; rfl
  have ha : a.length = a.cps.toList.length := by rw [Array.length_toList]; rfl
  unfold Builtin.Str.subAt at e ⊢
  rw [← e]
  congr 1
  apply Array.toList_inj.mp
  rw [Array.toList_extract, Array.toList_extract, Str.cps_append, Str.cps_append, Array.toList_append, Array.toList_append]
  simp only [List.extract_eq_take_drop]
  rw [ha, List.drop_append, List.drop_append]
  rw [Nat.add_sub_cancel_left, show a.cps.toList.length + i - a.cps.toList.length = i from Nat.add_sub_cancel_left _ _, show i + sub.length - i = sub.length from Nat.add_sub_cancel_left _ _, List.drop_of_length_le (Nat.le_add_right _ _ : a.cps.toList.length ≤ a.cps.toList.length + i), List.nil_append, List.take_append_of_le_length (by rw [List.length_drop]; omega)]
theorem find_of {a b c y : Str} {i j : Nat} (hij : i + y.length ≤ j) (hj : i + y.length ≤ b.length) (e : Builtin.Str.subAt b y i = true) : FindIs (a ++ (b ++ c)) y (a.length + i) (a.length + j) ((a.length : Int) + (i : Int)) := by
  refine ⟨?_⟩
  rw [find_here (by omega) (subAt_of hj e)]
  show ((a.length + i : Nat) : Int) = _
  omega
theorem find_not {x y : Str} {i j : Nat} (h : j < i) : FindIs x y i j (-1) := by
  refine ⟨?_⟩
  rw [find_beyond h]
theorem pt4_slice {a c : Str} : SliceIs (a ++ (pt 4 ++ c)) a.length 1 3 "ab" := slice_of (by decide) (by decide +kernel) (by decide +kernel) (by decide +kernel)
theorem pt5_slice {a c : Str} : SliceIs (a ++ (pt 5 ++ c)) a.length 1 5 "!b-d" ∧ SliceIs (a ++ (pt 5 ++ c)) a.length 1 3 "!b" ∧ SliceIs (a ++ (pt 5 ++ c)) a.length 4 5 "d" := ⟨slice_of (by decide) (by decide +kernel) (by decide +kernel) (by decide +kernel), slice_of (by decide) (by decide +kernel) (by decide +kernel) (by decide +kernel), slice_of (by decide) (by decide +kernel) (by decide +kernel) (by decide +kernel)⟩
theorem pt5_find {a c : Str} : FindIs (a ++ (pt 5 ++ c)) "-" (a.length + 3) (a.length + 5) ((a.length : Int) + 3) ∧ FindIs (a ++ (pt 5 ++ c)) "-" (a.length + 6) (a.length + 5) (-1) := ⟨find_of (i := 3) (by decide +kernel) (by decide +kernel) (by decide +kernel), find_not (by omega)⟩
end
example : True := by
  k_with "my_lit" =>
    first
      | ((with_reducible show wpAny _ _ (compareOp CmpOp.NotIn (Value.str _ _) (Value.str _ _)) _ _ _); first | (with_reducible refine notIn_lit (b := true) (by decide +kernel) ?_) | (with_reducible refine notIn_lit (b := false) (by decide +kernel) ?_))
      | ((with_reducible show wpAny _ _ (call (Value.builtin "str.find") [_, _, _, _]) _ _ _); first | (refine' find_rule (a := 3) (c := 5) ?qhfz ?qhiz ?qhjz ?qhcz ?_; (case qhfz => assumption); (case qhiz => omega); (case qhjz => omega); (case qhcz => omega)) | (refine' find_rule (a := 6) (c := 5) ?qhfz ?qhiz ?qhjz ?qhcz ?_; (case qhfz => assumption); (case qhiz => omega); (case qhjz => omega); (case qhcz => omega)))
      | ((with_reducible show wpAny _ _ (call (Value.type "range") _) _ _ _); (refine wpAny_tok ?_; walk1; intro zhle; (have zhlo1 := TokLo.up (TokLo.up ‹TokLo _ _› (by walk_at "my_le")) zhle); (clear zhle); (revert zhlo1; intro _)))
      | ((with_reducible show wpAny _ _ (compareOp CmpOp.Gt (Value.str _ _) (Value.str _ _)) _ _ _); first | (with_reducible refine gt_lit (b := false) (by decide +kernel) ?_) | (with_reducible refine gt_lit (b := true) (by decide +kernel) ?_))
      | ((with_reducible show wpAny _ _ (subscriptTail _ _ (Value.ref _) (Value.int _ _)) _ _ _); first | (refine' sub_fst ?qhlz ?qhiz ?_ ?qhsz; (case qhlz => exact News.get (by k_asm) (by k_mem)); (case qhiz => decide); (case qhsz => exact rfl)) | (refine' sub_snd ?qhlz ?qhiz ?_ ?qhsz; (case qhlz => exact News.get (by k_asm) (by k_mem)); (case qhiz => decide); (case qhsz => exact rfl)))
      | ((with_reducible show wpAny _ _ (truthy (Value.str _ _)) _ _ _); (refine wpAny_tok ?_; walk1; intro zhle; (have zhlo1 := TokLo.up (TokLo.up ‹TokLo _ _› (by walk_at "my_le")) zhle); (clear zhle); (revert zhlo1; intro _)))
      | ((with_reducible show wpAny _ _ (formatField _ _) _ _ _); (refine wpAny_tok ?_; walk1; intro zhle; (have zhlo1 := TokLo.up (TokLo.up ‹TokLo _ _› (by walk_at "my_le")) zhle); (clear zhle); (revert zhlo1; intro _)))
      | ((with_reducible show wpAny _ _ (binaryOp _ (Value.str _ _) (Value.str _ _)) _ _ _); refine wpAny_tok ?_; walk1; intro zhle; (have zhlo1 := TokLo.up (TokLo.up ‹TokLo _ _› (by walk_at "my_le")) zhle); (clear zhle); (revert zhlo1; intro _))
      | ((with_reducible show wpAny _ _ (subscriptTail _ _ (Value.str _ _) (Value.ref _)) _ _ _); refine wpAny_tok ?_; walk1; intro zhle; (have zhlo1 := TokLo.up (TokLo.up ‹TokLo _ _› (by walk_at "my_le")) zhle); (clear zhle); (revert zhlo1; intro _))
      | ((with_reducible show wpAny _ _ (compareOp CmpOp.In _ _) _ _ _); refine wpAny_tok ?_; walk1; intro zhle; (have zhlo1 := TokLo.up (TokLo.up ‹TokLo _ _› (by walk_at "my_le")) zhle); (clear zhle); (revert zhlo1; intro _))
      | ((with_reducible show wpAny _ _ (getMethod (Value.ref 204) _ _) _ _ _); refine' getm_sub ?qGz ?qFz ?_; (case qGz => assumption); (case qFz => k_asm))
      | ((with_reducible show wpAny _ _ (call (Value.builtin "str.replace") _) _ _ _); (refine' replace_same ?qhpz ?qhuz ?qhloz ?qhyzz ?qhbz ?qhrz ?_; (case qhpz => assumption); (case qhuz => walk_at "my_lo"); (case qhloz => walk_at "my_lo"); (case qhyzz => decide +kernel); (case qhbz => decide +kernel); (case qhrz => decide +kernel)); intro zt1 ztk zhlo)
      | ((with_reducible show wpAny _ _ (eval (PySem.Expr.Lambda _ _ _ _) _) _ _ _); (refine' lam_F (P := 225) ?qGz ?qFz ?qNz ?qhmz ?qhtz ?qUz ?qCz ?qhdefz ?qhclz ?qhloz ?_; (case qGz => assumption); (case qFz => k_asm); (case qNz => k_asm); (case qhmz => k_mem); (case qhtz => assumption); (case qUz => intro ztb1; k_upd); (case qCz => exact codeHd_of_K (Frag.In.keeps (Gd.K ‹Gd _ _ _ _ _ _›) (Fr.keep ‹Fr _ _ _ _›)) (by kernel_rfl)); (case qhdefz => exact rfl); (case qhclz => exact rfl); (case qhloz => walk_at "my_lo")); intro _ _ zh1 ztk _ _ _ zF1 zN1 zlt zhlo; ((replace zlt := allNe_of zlt); (simp only [AllNe, and_true] at zlt); (repeat ((have _ := And.left zlt); (replace zlt := And.right zlt)))); (try k_sweep))
      | ((with_reducible show wpAny _ _ (call (Value.builtin "re.Pattern.sub") _) _ _ _); (refine' sub_F ?qGz ?qFz ?qNz ?qhmz ?qhcz ?qhoz ?qhxz ?qhzz ?qhloz ?_; (case qGz => assumption); (case qFz => k_asm); (case qNz => k_asm); (case qhmz => k_mem); (case qhcz => assumption); (case qhoz => first | exact no_ab | exact no_bd); (case qhxz => decide +kernel); (case qhzz => exact Nat.le_of_ble_eq_true rfl); (case qhloz => walk_at "my_lo")); intro _ _ _ _ _ _; (try (revert zlt; intro _)); (try k_sweep))
  k_with "my_slice" =>
    ((first | ((with_reducible refine' slice_lo (a := 1) (c := 3) ?qFz ?qNz ?qhsz ?qhiz ?qhjz ?qhzz ?qhloz ?_ ?qs1z ?qhtz); (case qFz => k_asm); (case qNz => k_asm); (case qhsz => assumption); (case qhiz => omega); (case qhjz => omega); (case qhzz => assumption); (case qhloz => walk_at "my_lo"); (case qs1z => exact rfl); (case qhtz => exact fun _ => rfl)) | ((with_reducible refine' slice_lo (a := 1) (c := 5) ?qFz ?qNz ?qhsz ?qhiz ?qhjz ?qhzz ?qhloz ?_ ?qs1z ?qhtz); (case qFz => k_asm); (case qNz => k_asm); (case qhsz => assumption); (case qhiz => omega); (case qhjz => omega); (case qhzz => assumption); (case qhloz => walk_at "my_lo"); (case qs1z => exact rfl); (case qhtz => exact fun _ => rfl)) | ((with_reducible refine' slice_lo (a := 4) (c := 5) ?qFz ?qNz ?qhsz ?qhiz ?qhjz ?qhzz ?qhloz ?_ ?qs1z ?qhtz); (case qFz => k_asm); (case qNz => k_asm); (case qhsz => assumption); (case qhiz => omega); (case qhjz => omega); (case qhzz => assumption); (case qhloz => walk_at "my_lo"); (case qs1z => exact rfl); (case qhtz => exact fun _ => rfl))); intro _ _ _ _ _ _; (try k_sweep))
  k_with "goD" =>
    repeat' (first | ((with_reducible show wpAny _ _ (storeName _ _ _) _ _ _); dsimp only) | ((with_reducible show wpAny _ _ (execs _ _) _ _ _); dsimp only) | ((with_reducible refine wpAny_For ?qhz (hs := ?qhsz)); (case qhsz => (intro _; rfl))) | ((with_reducible show wpAny _ _ (execs _ _) _ _ _); ((with_reducible refine' gen_toks ?qhz ?_); (case qhz => walk_at "my_lo")); intro _ _) | ((with_reducible show wpAny _ _ (subscriptTail _ _ (Value.str _ _) (Value.int _ _)) _ _ _); k_extra "my_charat"; (try dsimp only)) | ((with_reducible show wpAny _ _ (subscriptTail _ _ (Value.str _ _) (Value.ref _)) _ _ _); k_extra "my_slice"; (try dsimp only)) | (k_extra "my_lit"; (try dsimp only)) | (with_reducible refine wpAny_While ?_) | (k_unfold; (try dsimp only)) | walk1 | (dsimp only; walk1) | fail "no step")
  trivial
section
example : True := by
  k_with "goD" =>
    repeat' (first | ((with_reducible show wpAny _ _ (storeName _ _ _) _ _ _); dsimp only) | ((with_reducible show wpAny _ _ (execs _ _) _ _ _); dsimp only) | ((with_reducible refine wpAny_For ?qhz (hs := ?qhsz)); (case qhsz => (intro _; rfl))) | ((with_reducible show wpAny _ _ (execs _ _) _ _ _); ((with_reducible refine' gen_toks ?qhz ?_); (case qhz => walk_at "my_lo")); intro _ _) | ((with_reducible show wpAny _ _ (execs (_ :: _) _) _ _ _); refine hide_cons ?_; intro _ _) | ((fail_if_success (with_reducible show wpAny _ _ _ _ _ _)); refine Nx.next (by assumption) _ ?_; (try dsimp only); (try (rename Nx _ _ _ => hz'; clear hz'; rename Flow → Shared → Prop => qz'; clear qz'))) | ((fail_if_success (with_reducible show wpAny _ _ _ _ _ _)); first | (refine Nx.ret (by assumption) _ _ ?_) | (refine Nx.brk (by assumption) _ ?_)) | ((with_reducible show wpAny _ _ (subscriptTail _ _ (Value.str _ _) (Value.int _ _)) _ _ _); k_extra "my_charat"; (try dsimp only)) | ((with_reducible show wpAny _ _ (subscriptTail _ _ (Value.str _ _) (Value.ref _)) _ _ _); k_extra "my_slice"; (try dsimp only)) | (k_extra "my_lit"; (try dsimp only)) | (with_reducible refine wpAny_While ?_) | (k_unfold; (try dsimp only)) | walk1 | (dsimp only; walk1) | fail "no step")
  trivial

theorem while_HJ {w : World} {A : Around} {s : Shared} {R : Result → Shared → Prop} {test : Expr} {body : List Stmt} {env : Env} (I : Nat → Shared → Prop) (J : Shared → Prop)
    (turn : ∀ n s, I n s → ∀ (Qb : Flow → Shared → Prop) (Qj : Shared → Prop) (Eb : Value → Shared → Prop), (∀ s₃, (s.toks ≤ s₃.toks → ∃ m, m < n ∧ I m s₃) → Qb .next s₃) → (∀ s₃, J s₃ → Qb .brk s₃) → (∀ s₂, J s₂ → Qj s₂) →
      wpAny (model PR w) A (isTrue test env (eval test env)) (fun b s₂ => if b then wpAny (model PR w) A (execs body env) Qb Eb s₂ else Qj s₂) Eb s)
    (done : ∀ s, J s → R (.ok .next) s) (n : Nat) (h : I n s) : codeAny (model PR w) A (.whileLoop test body [] env) R s := by
  refine codeAny_whileLoop I (fun n s hI => ?_) n h
  refine wpAny_tok ?_
  have T := turn n s hI (fun f s₃ => s.toks ≤ s₃.toks → match f with
            | .next | .cont => ∃ m, m < n ∧ I m s₃
            | .brk => R (.ok .next) s₃
            | .ret v => R (.ok (.ret v)) s₃) (fun s₂ => wpAny (model PR w) A (execs [] env) (fun f s₃ => R (.ok f) s₃) (notedBy (model PR w) A env fun e s' => R (.error e) s') s₂) (notedBy (model PR w) A env fun e s' => R (.error e) s')
    (fun s₃ k => k) (fun s₃ k _ => done _ k) (fun s₂ k => wpAny_execs_nil (done _ k))
  refine wpAny_mono T (fun b s₂ h₂ => ?_) fun _ _ e _ => e
  intro hle
  cases b with
  | false => exact h₂
  | true =>
    refine wpAny_tok ?_
    refine wpAny_mono h₂ (fun f s₃ h₃ => ?_) fun _ _ e _ => e
    intro hle2
    exact h₃ (Nat.le_trans hle hle2)
noncomputable def PlainD (d : Nat) : Prop := d = 2 ∨ d = 3 ∨ d = 6 ∨ d = 7 ∨ d = 8
theorem plain_pt {sign : Str} {d : Nat} (h : PlainD d) : ∃ c y, pt d = ⟨#[c]⟩ ∧ ((⟨#[c]⟩ : Str) == "*") = false ∧ ((⟨#[c]⟩ : Str) == "?") = false ∧ ((⟨#[c]⟩ : Str) == "[") = false ∧ EscOf ⟨#[c]⟩ y ∧ partOf sign d = some y ∧ y ≠ "many" ∧ d ≠ 0 := by
  rcases h with rfl | rfl | rfl | rfl | rfl
  · exact ⟨97, "a", by decide +kernel, by decide +kernel, by decide +kernel, by decide +kernel, (show ("a" : Str) = ⟨#[97]⟩ by decide +kernel) ▸ esc_a, rfl, by decide +kernel, by decide⟩
  · exact ⟨46, "\\.", by decide +kernel, by decide +kernel, by decide +kernel, by decide +kernel, (show ("." : Str) = ⟨#[46]⟩ by decide +kernel) ▸ esc_dot, rfl, by decide +kernel, by decide⟩
  · exact ⟨35, "\\#", by decide +kernel, by decide +kernel, by decide +kernel, by decide +kernel, (show ("#" : Str) = ⟨#[35]⟩ by decide +kernel) ▸ esc_hash, rfl, by decide +kernel, by decide⟩
  · exact ⟨98, "b", by decide +kernel, by decide +kernel, by decide +kernel, by decide +kernel, (show ("b" : Str) = ⟨#[98]⟩ by decide +kernel) ▸ esc_b, rfl, by decide +kernel, by decide⟩
  · exact ⟨32, "\\ ", by decide +kernel, by decide +kernel, by decide +kernel, by decide +kernel, (show (" " : Str) = ⟨#[32]⟩ by decide +kernel) ▸ esc_sp, rfl, by decide +kernel, by decide⟩
theorem eq_strF {prog : Program} {w : World} {A : Around} {E : Value → Shared → Prop} {s : Shared} {x y : Str} {t u : Tok} {Q : Value → Shared → Prop} (hb : (x == y) = false) (h : Q (.bool false) s) : wpAny (model prog w) A (compareOp .Eq (.str x t) (.str y u)) Q E s :=
  PyProof.Rows.eq_str (by rw [hb]; exact h)
example : True := by
  k_with "goP" =>
    repeat' (first
      | ((with_reducible show wpAny _ _ (execs (_ :: _) _) _ _ _); refine hide_cons ?_; intro _ _)
      | ((fail_if_success (with_reducible show wpAny _ _ _ _ _ _)); refine Nx.next (by assumption) _ ?_; (try dsimp only); (try (rename Nx _ _ _ => hz'; clear hz'; rename Flow → Shared → Prop => qz'; clear qz')))
      | ((fail_if_success (with_reducible show wpAny _ _ _ _ _ _)); first | (refine Nx.ret (by assumption) _ _ ?_) | (refine Nx.brk (by assumption) _ ?_) | (refine Nx.cont (by assumption) _ ?_))
      | ((with_reducible show wpAny _ _ (storeName _ _ _) _ _ _); dsimp only) | ((with_reducible show wpAny _ _ (compareOp CmpOp.Eq (Value.str _ _) (Value.str _ _)) _ _ _); (with_reducible refine eq_strF (by assumption) ?_)) | (with_reducible refine wpAny_While ?_) | (k_unfold; (try dsimp only)) | walk1 | (dsimp only; walk1) | fail "no step")
  trivial

theorem om_plain : ∀ d, d < 9 → (d = 1 ∨ PlainD d ∨ d = 0 ∨ d = 4 ∨ d = 5) := by unfold PlainD; decide
theorem translate_spec {w : World} {A : Around} {s : Shared} {g : Heap} {p : Program} {loose : List Str} {mg mb : Str → Option Value} {V : Value} {pat sign : Str} {tp tq : Tok} {ds : List Nat} {Q E : Value → Shared → Prop}
    (G : Gd w p loose mg mb g) (st : g.StaysIn s.heap) (hT : TabI 225 s.heap) (hgT : g.get? 225 = none) (hh : A.handled = none) (hu : A.units + 400 < cLine) (hr : A.depth + 10 < recursionLimit) (hB : AllBare s.gens)
    (hpat : pat = textOf ds) (hds : ∀ d ∈ ds, d < 9) (hlen : ds.length ≤ 50) (hpos : TokPos s.toks) (hself : SelfSame V) (hnew : ∀ (x : Str) (t : Tok), x ≠ "many" → s.toks ≤ t → NotSame V (.str x t)) (hsign : NotSame V (.str sign tq))
    (h_ : ∀ h' gs tk D us nu, s.heap.get? D = none → h'.get? D = some (lstObj us nu) → TrRow V us.toList (rowOf sign ds) → s.toks ≤ tk → TabI 225 h' → AllBare gs → (∀ b o, b ≠ 225 → s.heap.get? b = some o → h'.get? b = some o) → Q (.ref D) ⟨h', gs, s.drawn, tk, s.os⟩) :
    wpAny (model PR w) A (call (.ref 230) [.str pat tp, V, .str sign tq]) Q E s := by
  obtain ⟨tb1, hP1, htr1⟩ := hT
  have hpl : pat.length ≤ 400 := by
    have := textOf_len ds
    rw [hpat]; omega
  refine wpAny_tok ?_
  refine wpAny_call ?_
  refine' enter (binds := [("pat", .str pat tp), ("STAR", V), ("QUESTION_MARK", .str sign tq)]) (led := [(225, tabObj tb1)]) G.K G.T st ?hl ?ho ?hcd (om_0 hr) ?hb ?hloc ?_ ?hcell ?hco ?hgen ?hk
  case hl => simp only [List.forall_mem_cons, hP1, hgT, and_self, List.not_mem_nil, false_imp_iff, implies_true]
  case ho => k_is
  case hcd => k_is
  case hb => exact BindsTo.of_eq rfl
  case hloc => rfl
  case hcell => decide
  case hco => rfl
  case hgen => rfl
  case hk => rfl
  intro g' h₁ kp st' kp₁ F' N' X' T'
  have G' : Gd w p loose mg mb g' := ⟨X', T', G.B.keeps st'⟩
  have hlo0 : TokLo s.toks s.toks := ⟨Nat.le_refl _⟩
  k_extra "goD"
  rename Fr _ _ _ _ => F
  rename News _ _ _ _ => N
  rename_i R _ _ _ _ _ x _ n1 n2 _ _ _ _ _ _ _ _ _ _ _ _ _
  have hxR := N (x, appObj R) (by k_mem)
  have hRR := N (R, listOf #[] 0) (by k_mem)
  have hTT := N (225, tabObj tb1) (by k_mem)
  have N0 : News g' s.heap.objs.size _ [(x, appObj R), (R, lstObj #[] 0), (225, tabObj tb1)] := fun p hp => N p (List.mem_cons_of_mem _ hp)
  refine while_HJ (I := fun n s' => ∃ h gs tk m pre rest, s' = ⟨h, gs, s.drawn, tk, s.os⟩ ∧ n = rest.length ∧ TrInv g' s.heap.objs.size R x V pat sign tp tq s.toks ds pre rest h gs tk m)
    (J := fun s' => ∃ h gs tk m, s' = ⟨h, gs, s.drawn, tk, s.os⟩ ∧ TrInv g' s.heap.objs.size R x V pat sign tp tq s.toks ds ds [] h gs tk m) ?turn ?done ds.length ?h0
  case h0 =>
    refine ⟨_, _, _, _, [], ds, rfl, rfl, ⟨rfl, hB, F, rfl, rfl, rfl, rfl, rfl, ⟨_, rfl⟩, ⟨_, rfl⟩, ⟨#[], 0, tb1, N0, htr1, .nil⟩, ?_⟩⟩
    exact TokLo.le (by walk_at "my_lo")
  case turn =>
    rintro n s' ⟨h, gs, tk, m, pre, rest, rfl, rfl, I⟩ Qb Qj Eb hb1 hb2 hj
    have I0 : Hold (TrInv g' s.heap.objs.size R x V pat sign tp tq s.toks ds pre rest h gs tk m) := I
    obtain ⟨ti, hti⟩ := I.mi
    obtain ⟨tn, htn⟩ := I.mn
    obtain ⟨rv, nn, tb, N1, htr, hrow⟩ := I.nw
    have F1 := fr_knowns [("i", .int ((textOf pre).length : Int) ti), ("n", .int (pat.length : Int) tn), ("pat", .str pat tp), ("res", .ref R), ("add", .ref x), ("STAR", V), ("QUESTION_MARK", .str sign tq)] I.fr (by
      simp only [List.forall_mem_cons, List.not_mem_nil, false_imp_iff, implies_true, and_true]
      exact ⟨hti, htn, I.mpat, I.mres, I.madd, I.mstar, I.msign⟩)
    have hBg := I.bare
    have eds := I.eds
    have htk := I.htk
    clear I F N N0 hxR hRR hTT
    have hpz : Small pat.length := Nat.le_trans hpl (by decide)
    have hrz : Small rv.size := by
      have e1 := hrow.length
      have e2 := rowOf_le sign pre
      have e3 := congrArg List.length eds
      rw [Array.length_toList] at e1
      rw [List.length_append] at e3
      exact om_sm4 e1 e2 e3 hlen

    cases rest with
    | nil =>
      have e0 : (textOf pre).length = pat.length := by rw [hpat, eds, List.append_nil]
      k_extra "goW"
      have epre : pre = ds := by rw [eds, List.append_nil]
      exact hj _ ⟨_, _, _, _, rfl, by rw [epre] at I0; exact I0⟩
    | cons d rest =>
      clear I0
      have ep : pat = textOf pre ++ (pt d ++ textOf rest) := by rw [hpat, eds, textOf_append]; rfl
      have hd9 : d < 9 := hds d (by rw [eds]; simp)
      have e0 : pat.length = (textOf pre).length + ((pt d).length + (textOf rest).length) := by rw [ep, Str.length_append, Str.length_append]
      obtain rfl | hplain | rfl | rfl | rfl : d = 1 ∨ PlainD d ∨ d = 0 ∨ d = 4 ∨ d = 5 := om_plain d hd9
      · have hc0 : CharIs pat (textOf pre).length 0 "?" := by rw [ep]; exact charIs_of (x := 63) (by rfl) (by decide +kernel)
        have e1 : (pt 1).length = 1 := rfl
        generalize hk : (textOf pre).length = k at *
        generalize (textOf rest).length = r at *
        k_extra "goW"
        rename Fr _ _ _ _ => F
        rename News _ _ _ _ => N
        refine (hb1 _ fun hmono => ⟨rest.length, by simp, _, _, _, _, pre ++ [1], rest, rfl, rfl, ⟨by rw [eds]; simp, hBg, F, rfl, rfl, rfl, rfl, rfl, ⟨_, int_eq (by rw [textOf_snoc_len, hk, e1]; omega)⟩, ⟨_, rfl⟩, ⟨_, _, _, N, htr, row_txt hrow (by decide) rfl hsign⟩, Nat.le_trans htk hmono⟩⟩)
      · obtain ⟨c, y, ept, k1, k2, k3, hesc, hpart, hym, hd0⟩ := plain_pt (sign := sign) hplain
        have hc0 : CharIs pat (textOf pre).length 0 ⟨#[c]⟩ := by rw [ep, ept]; exact charIs_of (x := c) rfl rfl
        have e1 : (pt d).length = 1 := by rw [ept]; rfl
        have hlo0 : TokLo s.toks tk := ⟨htk⟩
        generalize hk : (textOf pre).length = k at *
        generalize (textOf rest).length = r at *
        k_extra "goP"
        rename Fr _ _ _ _ => F
        rename News _ _ _ _ => N
        refine (hb1 _ fun hmono => ⟨rest.length, by simp, _, _, _, _, pre ++ [d], rest, rfl, rfl, ⟨by rw [eds]; simp, hBg, F, rfl, rfl, rfl, rfl, rfl, ⟨_, int_eq (by rw [textOf_snoc_len, hk, e1]; omega)⟩, ⟨_, rfl⟩, ⟨_, _, _, N, htr, row_txt hrow hd0 hpart (hnew _ _ hym (TokLo.le (by assumption)))⟩, Nat.le_trans htk hmono⟩⟩)
      · have hc0 : CharIs pat (textOf pre).length 0 "*" := by rw [ep]; exact charIs_of (x := 42) (by rfl) (by decide +kernel)
        have e1 : (pt 0).length = 1 := rfl
        have hlo0 : TokLo s.toks tk := ⟨htk⟩
        generalize hk : (textOf pre).length = k at *
        generalize (textOf rest).length = r at *
        obtain rfl | ⟨pv, v, rfl⟩ := push_or (rv := rv)
        · k_extra "goW"
          rename Fr _ _ _ _ => F
          rename News _ _ _ _ => N
          refine (hb1 _ fun hmono => ⟨rest.length, by simp, _, _, _, _, pre ++ [0], rest, rfl, rfl, ⟨by rw [eds]; simp, hBg, F, rfl, rfl, rfl, rfl, rfl, ⟨_, int_eq (by rw [textOf_snoc_len, hk, e1]; omega)⟩, ⟨_, rfl⟩, ⟨_, _, _, N, htr, row_star hrow ?_⟩, Nat.le_trans htk hmono⟩⟩)
          generalize rowOf sign pre = ro at hrow
          cases hrow; simp
        · obtain ⟨ys, o, hro, hys, hov⟩ := TrRow.last (show TrRow V (pv.toList ++ [v]) (rowOf sign pre) by rw [← Array.toList_push]; exact hrow)
          k_extra "goW"
          rename Fr _ _ _ _ => F
          rename News _ _ _ _ => N
          obtain ⟨ho, hv⟩ | ⟨s', t', ho, hv, hn⟩ := hov
          · subst hv
            refine hself _ _ _ _ _ ?_
            dsimp only
            k_extra "goW"
            rename Fr _ _ _ _ => F
            rename News _ _ _ _ => N
            refine (hb1 _ fun hmono => ⟨rest.length, by simp, _, _, _, _, pre ++ [0], rest, rfl, rfl, ⟨by rw [eds]; simp, hBg, F, rfl, rfl, rfl, rfl, rfl, ⟨_, int_eq (by rw [textOf_snoc_len, hk, e1]; omega)⟩, ⟨_, rfl⟩, ⟨_, _, _, N, htr, row_same hrow (by rw [hro, ho]; simp)⟩, Nat.le_trans htk hmono⟩⟩)
          · refine hn _ _ _ _ _ ?_
            dsimp only
            k_extra "goW"
            rename Fr _ _ _ _ => F
            rename News _ _ _ _ => N
            refine (hb1 _ fun hmono => ⟨rest.length, by simp, _, _, _, _, pre ++ [0], rest, rfl, rfl, ⟨by rw [eds]; simp, hBg, F, rfl, rfl, rfl, rfl, rfl, ⟨_, int_eq (by rw [textOf_snoc_len, hk, e1]; omega)⟩, ⟨_, rfl⟩, ⟨_, _, _, N, htr, row_star hrow (by rw [hro, ho]; simp)⟩, Nat.le_trans htk hmono⟩⟩)
      · have hc0 : CharIs pat (textOf pre).length 0 "[" := by rw [ep]; exact charIs_of (x := 91) (by rfl) (by decide +kernel)
        have hc1 : CharIs pat (textOf pre).length 1 "a" := by rw [ep]; exact charIs_of (x := 97) (by rfl) (by decide +kernel)
        have hc2 : CharIs pat (textOf pre).length 2 "b" := by rw [ep]; exact charIs_of (x := 98) (by rfl) (by decide +kernel)
        have hc3 : CharIs pat (textOf pre).length 3 "]" := by rw [ep]; exact charIs_of (x := 93) (by rfl) (by decide +kernel)
        have hsl : SliceIs pat (textOf pre).length 1 3 "ab" := by rw [ep]; exact pt4_slice
        have e1 : (pt 4).length = 4 := rfl
        have hlo0 : TokLo s.toks tk := ⟨htk⟩
        generalize hk : (textOf pre).length = k at *
        generalize (textOf rest).length = r at *
        k_extra "goC"
        refine while_step ?_
        k_extra "goD"
        refine while_step ?_
        k_extra "goD"
        refine while_step ?_
        k_extra "goD"
        rename Fr _ _ _ _ => F
        rename News _ _ _ _ => N
        rename TokLo _ _ => hlast
        clear hlast
        rw [show (Str.empty ++ Str.ofString "[" ++ Str.ofString "ab" ++ Str.ofString "]" : Str) = "[ab]" from by decide +kernel] at N
        refine (hb1 _ fun hmono => ⟨rest.length, by simp, _, _, _, _, pre ++ [4], rest, rfl, rfl, ⟨by rw [eds]; simp, hBg, F, rfl, rfl, rfl, rfl, rfl, ⟨_, int_eq (by rw [textOf_snoc_len, hk, e1]; omega)⟩, ⟨_, rfl⟩, ⟨_, _, _, news3 (N (x, appObj R) (by k_mem)) (N (R, _) (by k_mem)) (N (225, _) (by k_mem)), by assumption, row_txt hrow (by decide) rfl (hnew _ _ (by decide +kernel) (TokLo.le (by walk_at "my_lo")))⟩, Nat.le_trans htk hmono⟩⟩)
      · have hc0 : CharIs pat (textOf pre).length 0 "[" := by rw [ep]; exact charIs_of (x := 91) (by rfl) (by decide +kernel)
        have hc1 : CharIs pat (textOf pre).length 1 "!" := by rw [ep]; exact charIs_of (x := 33) (by rfl) (by decide +kernel)
        have hc2 : CharIs pat (textOf pre).length 2 "b" := by rw [ep]; exact charIs_of (x := 98) (by rfl) (by decide +kernel)
        have hc3 : CharIs pat (textOf pre).length 3 "-" := by rw [ep]; exact charIs_of (x := 45) (by rfl) (by decide +kernel)
        have hc4 : CharIs pat (textOf pre).length 4 "d" := by rw [ep]; exact charIs_of (x := 100) (by rfl) (by decide +kernel)
        have hc5 : CharIs pat (textOf pre).length 5 "]" := by rw [ep]; exact charIs_of (x := 93) (by rfl) (by decide +kernel)
        have hsl : SliceIs pat (textOf pre).length 1 5 "!b-d" := by rw [ep]; exact pt5_slice.1
        have hsl1 : SliceIs pat (textOf pre).length 1 3 "!b" := by rw [ep]; exact pt5_slice.2.1
        have hsl2 : SliceIs pat (textOf pre).length 4 5 "d" := by rw [ep]; exact pt5_slice.2.2
        have hf1 : FindIs pat "-" ((textOf pre).length + 3) ((textOf pre).length + 5) (((textOf pre).length : Int) + 3) := by rw [ep]; exact pt5_find.1
        have hf2 : FindIs pat "-" ((textOf pre).length + 6) ((textOf pre).length + 5) (-1) := by rw [ep]; exact pt5_find.2
        have e1 : (pt 5).length = 6 := rfl
        have hlo0 : TokLo s.toks tk := ⟨htk⟩
        generalize hk : (textOf pre).length = k at *
        generalize (textOf rest).length = r at *
        k_extra "goC"
        refine while_step ?_
        k_extra "goD"
        refine while_step ?_
        k_extra "goD"
        refine while_step ?_
        k_extra "goD"
        refine while_step ?_
        k_extra "goD"
        refine while_step ?_
        k_extra "goD"
        refine while_step ?_
        k_extra "goD"
        rename Fr _ _ _ _ => F
        rename News _ _ _ _ => N
        rename IsRange _ _ _ _ _ _ _ _ => hRg
        rename_i C _ _ _ _ _ _ _ _
        refine iter_rangeK hRg (by decide) fun I h2 q2 hI k2 => ?_
        have F2 := fr_all F k2
        have hI' : h2.get? I = some (rngIt 1 1 (-1)) := hI
        have N2 := news_new F N q2 hI' k2
        have aI := fun (q : Addr × Obj) (hq : q ∈ _) => ne_of_none (N q hq).1 q2
        simp only [List.forall_mem_cons, List.not_mem_nil, false_imp_iff, implies_true, and_true] at aI
        obtain ⟨a1, a2, a3, a4⟩ := aI
        have b1 : Apart _ I := a1
        have b2 : Apart _ I := a2
        have b3 : Apart _ I := a3
        have b4 : Apart _ I := a4
        clear a1 a2 a3 a4 N F hI hI' k2 q2 hRg
        refine for_step ?_
        refine next_rangeF F2 N2 (by k_upd) (by decide) fun h3 tk3 F3 N3 => ?_
        clear F2 N2
        dsimp only
        refine wpAny_of_eq rfl ?_
        k_extra "goD"
        rename Fr _ _ _ _ => F
        rename News _ _ _ _ => N
        dsimp only
        refine for_step ?_
        refine next_range_endF hh F N (List.Mem.head _) (by k_extra "my_drop") (by decide) fun h4 F4 N4 => ?_
        clear F N
        dsimp only
        k_extra "goD"
        rename Fr _ _ _ _ => F
        rename News _ _ _ _ => N
        refine wpAny_tok ?_
        refine' genStrs (P := 225) (tb := tb) (F := fun j y => ∃ t, y = .str ((["!b", "d"] : List Str).getD j default) t) hh (G'.T.keeps F.keep) (G'.B.keeps F.keep) ?hl rfl (codeHd_of_K (G'.K.keeps F.keep) (by kernel_rfl)) (N (225, tabObj tb) (by k_mem)).1 htr (by decide) (by decide) (by decide) rfl rfl rfl rfl (by decide) rfl rfl rfl (by k_extra "my_room") ?hev ?hq ?hQ hBg (fun _ => rfl)
        case hev => intro Q' hq; exact ld F rfl hq
        case hl => exact News.get N (by k_mem)
        case hq =>
          intro L code A' E' i v u m₂ hA' hD hU hi hn ma
          obtain ⟨rfl, rfl⟩ | ⟨rfl, rfl⟩ := two_at hi
          all_goals
            refine MethodCall_ ?_
            refine MethodCall_ (evL rfl rfl hn ma (by decide) ?_)
            with_reducible refine GM.replace ?_
            refine callWith_builtin rfl (evalArgs_plain (spliced_cons ?_))
            refine wpAny_Constant_str (k := 0) (pos := default) ?_
            refine spliced_cons (wpAny_Constant_str (k := 0) (pos := default) ?_)
            refine spliced_nil ?_
            refine replace_nothing (by decide +kernel) ?_
            with_reducible refine GM.replace ?_
            refine callWith_builtin rfl (evalArgs_plain (spliced_cons ?_))
            refine wpAny_Constant_str (k := 0) (pos := default) ?_
            refine spliced_cons (wpAny_Constant_str (k := 0) (pos := default) ?_)
            refine spliced_nil ?_
            refine replace_nothing (by decide +kernel) ?_
            exact ⟨⟨_, rfl⟩, _, _, rfl, fun _ _ e => e⟩
        case hQ =>
          intro a s₅ fp wr Gr St hB5 hfp hafp hgen W hst hmv hle
          have hlo5 : TokLo s.toks s₅.toks := TokLo.up (TokLo.up ‹TokLo _ _› (by walk_at "my_le")) hle
          obtain ⟨fr5, ⟨tb5, hP5, ht5⟩, hb5, hd5, ho5⟩ := hmv s₅ (Moved.refl W.grefl)
          have hFN := (show Hold (_ ∧ _) from ⟨F, N⟩)
          clear F N
          k_extra "goD"
          refine wpAny_tok ?_
          refine SC.joinGen W.of_in1.of_in1 hgen hst hfp hafp (fun i v hv => ⟨_, hv.2⟩) (fun s' l hm hl => ?_) (show 2 ≤ sizeLine from by have : sizeLine = 16777216 := sizeLine_eq; omega)
          rw [two_strs rfl hl, show Txt.join "-" ["!b", "d"] = "!b-d" from by decide +kernel]
          refine ⟨joinOk_of (by decide +kernel), fun t' k hle => ?_⟩
          have hlo6 : TokLo s.toks k := TokLo.up (TokLo.up ‹TokLo _ _› (by walk_at "my_le")) hle
          obtain ⟨fr6, ⟨tb6, hP6, ht6⟩, b6, d6, o6⟩ := hmv s' hm
          obtain ⟨F, N⟩ := hFN
          refine' gen_moved F N ?hm ?U fr6 hP6 ?_
          case hm => k_mem
          case U => k_upd
          intro F6 N6
          clear F N fr6 hP6 hmv
          obtain ⟨hp6, gs6, dr6, tk6, os6⟩ := s'
          dsimp only at d6 o6 b6 F6 N6 hle
          subst d6 o6
          k_extra "goD"
          rename Fr _ _ _ _ => F
          rename News _ _ _ _ => N
          rename TokLo _ _ => hlast
          clear hlast
          rw [show (Str.empty ++ Str.ofString "[" ++ (Str.ofString "^" ++ Txt.slice (Str.ofString "!b-d") (some 1) none) ++ Str.ofString "]" : Str) = "[^b-d]" from by decide +kernel] at N
          refine (hb1 _ fun hmono => ⟨rest.length, by simp, _, _, _, _, pre ++ [5], rest, rfl, rfl, ⟨by rw [eds]; simp, b6, F, rfl, rfl, rfl, rfl, rfl, ⟨_, int_eq (by rw [textOf_snoc_len, hk, e1]; omega)⟩, ⟨_, rfl⟩, ⟨_, _, _, news3 (N (x, appObj R) (by k_mem)) (N (R, _) (by k_mem)) (N (225, _) (by k_mem)), by assumption, row_txt hrow (by decide) rfl (hnew _ _ (by decide +kernel) (TokLo.le (by walk_at "my_lo")))⟩, Nat.le_trans htk hmono⟩⟩)
  case done =>
    rintro s' ⟨h, gs, tk, m, rfl, I⟩
    obtain ⟨ti, hti⟩ := I.mi
    obtain ⟨tn, htn⟩ := I.mn
    obtain ⟨rv, nn, tb, N1, htr, hrow⟩ := I.nw
    have F1 := fr_knowns [("i", .int ((textOf ds).length : Int) ti), ("n", .int (pat.length : Int) tn), ("pat", .str pat tp), ("res", .ref R), ("add", .ref x), ("STAR", V), ("QUESTION_MARK", .str sign tq)] I.fr (by
      simp only [List.forall_mem_cons, List.not_mem_nil, false_imp_iff, implies_true, and_true]
      exact ⟨hti, htn, I.mpat, I.mres, I.madd, I.mstar, I.msign⟩)
    have hBg := I.bare
    have htk := I.htk
    clear I F N N0 hxR hRR hTT
    have e0 : (textOf ds).length = pat.length := by rw [hpat]
    dsimp only
    k_extra "goD"
    have hRn := (N1 (R, lstObj rv nn) (by k_mem))
    have hTn := (N1 (225, tabObj tb) (by k_mem))
    refine h_ _ _ _ _ _ _ ?_ hRn.1 hrow htk ⟨tb, hTn.1, htr⟩ hBg (fun b o hb e => F1.keep _ _ (kp _ _ e (by simp only [List.map_cons, List.map_nil, List.mem_cons, List.not_mem_nil, or_false]; exact hb)))
    cases q : s.heap.get? R with
    | none => rfl
    | some o =>
      by_cases e1 : R = 225
      · have q1 := hRn.1
        rw [e1, hTn.1] at q1; cases q1
      · have h3 := hRn.2.2
        rw [kp _ _ q (by simp only [List.map_cons, List.map_nil, List.mem_cons, List.not_mem_nil, or_false]; exact e1)] at h3; cases h3
end
section
theorem for_listT {w : World} {A : Around} {s : Shared} {R : Result → Shared → Prop} {target : Expr} {body : List Stmt} {env : Env} {l I : Addr} {items : Array Value} {g : Heap} {m : Str → Option Value} {Inv : Nat → (Str → Option Value) → Heap → Prop} {n0 : Nat} (hlo : TokLo n0 s.toks)
    (hh : A.handled = none) (hit : s.heap.IsListIter I l 0) (hl : s.heap.IsList l items) (hI : g.get? I = none) (hIL : @Ne Nat I env.locals) (hlI : @Ne Nat l I)
    (F : Fr g env.locals s.heap m) (B : AllBare s.gens)
    (stab : ∀ j m h h', Inv j m h → Fr g env.locals h m → h.IsListIter I l j → (∀ b o, @Ne Nat b env.locals → @Ne Nat b I → h.get? b = some o → h'.get? b = some o) → Inv j m h')
    (h0 : Inv 0 m s.heap)
    (turn : ∀ j v m₁ h gs tk oI oL, items[j]? = some v → TokLo n0 tk → Fr g env.locals h m₁ → Inv j m₁ h → AllBare gs → h.get? I = some oI → h.get? l = some oL →
      wpAny (model PR w) A (assign target env v) (fun _ s₂ => wpAny (model PR w) A (execs body env) (fun f s₃ => Hold (f = .next ∧ ∃ h' gs' tk' m', s₃ = ⟨h', gs', s.drawn, tk', s.os⟩ ∧ AllBare gs' ∧ Fr g env.locals h' m' ∧ Inv (j + 1) m' h' ∧ h'.get? I = some oI ∧ h'.get? l = some oL))
        (notedBy (model PR w) A env fun e s' => R (.error e) s') s₂) (notedBy (model PR w) A env fun e s' => R (.error e) s') ⟨h, gs, s.drawn, tk, s.os⟩)
    (done : ∀ h' gs' tk' m', TokLo n0 tk' → Fr g env.locals h' m' → Inv items.size m' h' → AllBare gs' → R (.ok .next) ⟨h', gs', s.drawn, tk', s.os⟩) :
    codeAny (model PR w) A (.forLoop target (.ref I) body [] env) R s := by
  have hnk : ∀ {h h' : Heap} {m : Str → Option Value}, Fr g env.locals h m → (∀ b o, @Ne Nat b I → h.get? b = some o → h'.get? b = some o) → Fr g env.locals h' m := fun F k =>
    ⟨F.ns.at' fun o e => k _ o hIL.symm e, fun b o e => k b o (fun q => by have q' : b = I := q; rw [q', hI] at e; cases e) (F.keep b o e), F.above⟩
  refine codeAny_forLoop_any (fun k s' => ∃ h gs tk m j, s' = ⟨h, gs, s.drawn, tk, s.os⟩ ∧ AllBare gs ∧ Fr g env.locals h m ∧ Inv j m h ∧ h.IsListIter I l j ∧ h.IsList l items ∧ j ≤ items.size ∧ k = items.size - j ∧ TokLo n0 tk) ?_ items.size
    ⟨s.heap, s.gens, s.toks, m, 0, rfl, B, F, h0, hit, hl, Nat.zero_le _, rfl, hlo⟩
  rintro k s' ⟨h, gs, tk, m, j, rfl, hB, hF, hInv, hit, hl, hj, rfl, hlo⟩
  by_cases hlt : j < items.size
  · have hx : items[j]? = some items[j] := by simp [hlt]
    refine wpAny_pyNext_list_item hit hl hx fun h1 hit1 sb => ?_
    have k1 : ∀ b o, @Ne Nat b I → h.get? b = some o → h1.get? b = some o := fun b o hb e => (sb.2 b hb).trans e
    have F1 := hnk hF k1
    have hl1 : h1.IsList l items := hl.at fun o e => k1 _ o hlI e
    dsimp only
    refine letGo_listiter hit1 ?_
    obtain ⟨oI, hoI, rI⟩ := hit1
    obtain ⟨oL, hoL, rL⟩ := hl1
    refine wpAny_tok (wpAny_mono (turn j _ m h1 gs tk oI oL hx hlo F1 (stab _ _ _ _ hInv hF hit fun b o _ hb e => k1 b o hb e) hB hoI hoL) (fun _ s₂ h₂ hle => wpAny_tok (wpAny_mono h₂ (fun f s₃ h₃ hle2 => ?_) fun _ _ e _ => e)) fun _ _ e _ => e)
    obtain ⟨rfl, h', gs', tk', m', rfl, hB', F', hI', kk1, kk2⟩ := h₃
    exact ⟨items.size - (j + 1), by omega, h', gs', tk', m', j + 1, rfl, hB', F', hI', ⟨oI, kk1, rI⟩, ⟨oL, kk2, rL⟩, hlt, rfl, (hlo.up hle).up hle2⟩
  · have hx : items[j]? = none := by simp; omega
    have hje : j = items.size := by omega
    subst hje
    refine wpAny_pyNext_list_end hh hit hl hx fun h1 sb => ?_
    dsimp only
    refine wpAny_execs_nil ?_
    have k1 : ∀ b o, @Ne Nat b I → h.get? b = some o → h1.get? b = some o := fun b o hb e => sb b o hb e
    exact done _ _ _ _ hlo (hnk hF k1) (stab _ _ _ _ hInv hF hit fun b o _ hb e => k1 b o hb e) hB
structure TrPre (V : Value) (sign : Str) (tq : Tok) (n0 : Nat) : Prop where
  pos : TokPos n0
  self : SelfSame V
  new : ∀ (x : Str) (t : Tok), x ≠ "many" → n0 ≤ t → NotSame V (.str x t)
  sign : NotSame V (.str sign tq)
theorem TrPre.up {V : Value} {sign : Str} {tq : Tok} {n0 n : Nat} (x : TrPre V sign tq n0) (h : TokLo n0 n) : TrPre V sign tq n := ⟨Nat.lt_of_lt_of_le x.pos h.le, x.self, fun s t hs ht => x.new s t hs (Nat.le_trans h.le ht), x.sign⟩
theorem translate_F {w : World} {A : Around} {s : Shared} {g : Heap} {L : Addr} {m : Str → Option Value} {news : List (Addr × Obj)} {newsF : Array Value → List (Addr × Obj)} {p : Program} {loose : List Str} {mg mb : Str → Option Value} {V : Value} {pat sign : Str} {tp tq : Tok} {ds : List Nat} {tb : Array Value} {n0 : Nat} {Q E : Value → Shared → Prop}
    (G : Gd w p loose mg mb g) (F : Fr g L s.heap m) (N : News g L s.heap news) (hm : (225, tabObj tb) ∈ news) (ht : TriplesOk tb.toList) (U : ∀ tb', Upd 225 (tabObj tb) (tabObj tb') news (newsF tb')) (hh : A.handled = none) (hu : A.units + 400 < cLine) (hr : A.depth + 10 < recursionLimit) (hB : AllBare s.gens)
    (hpat : pat = textOf ds) (hds : ∀ d ∈ ds, d < 9) (hlen : ds.length ≤ 50) (hp : TrPre V sign tq n0) (hlo : TokLo n0 s.toks)
    (h_ : ∀ h' gs tk D us nu tb', TriplesOk tb'.toList → AllBare gs → Fr g L h' m → News g L h' ((D, lstObj us nu) :: newsF tb') → (∀ q ∈ news, @Ne Nat q.1 D) → TrRow V us.toList (rowOf sign ds) → TokLo n0 tk → Q (.ref D) ⟨h', gs, s.drawn, tk, s.os⟩) :
    wpAny (model PR w) A (call (.ref 230) [.str pat tp, V, .str sign tq]) Q E s := by
  have hp' := hp.up hlo
  have z := N _ hm
  refine translate_spec G F.keep ⟨tb, z.1, ht⟩ z.2.2 hh hu hr hB hpat hds hlen hp'.pos hp'.self hp'.new hp'.sign fun h' gs tk D us nu q1 q2 q3 q4 ⟨tb', q5, q6⟩ q7 q8 => ?_
  refine gen_moved F N hm (U tb') q8 q5 fun F' N' => ?_
  have fresh : @Ne Nat D L ∧ g.get? D = none := by
    obtain ⟨o', es, ep, eL, _⟩ := F.ns
    refine ⟨fun r => ?_, ?_⟩
    · have r' : D = L := r
      rw [r', eL] at q1; cases q1
    · cases r : g.get? D with
      | none => rfl
      | some y => rw [F.keep _ _ r] at q1; cases q1
  refine h_ h' gs tk D us nu tb' q6 q7 F' (fun q hq => ?_) (fun q hq => ne_of_none (N q hq).1 q1) q3 (hlo.up q4)
  rcases List.mem_cons.mp hq with rfl | hq
  · exact ⟨q2, fresh⟩
  · exact N' q hq
end
section
noncomputable def digs (x : Int) : List Nat := [dig x 0, dig x 1, dig x 2]
noncomputable def blank : Option Str := some "\\ "
noncomputable def rowTxt (r : List (Option Str)) : List Str := r.map fun o => o.getD "many"
theorem rowTxt_append (a b : List (Option Str)) : rowTxt (a ++ b) = rowTxt a ++ rowTxt b := List.map_append
theorem textOf_chars : ∀ ds, (textOf ds).cps.toList = ds.flatMap fun d => (pt d).cps.toList
  | [] => rfl
  | d :: r => by
    show (pt d ++ textOf r).cps.toList = _
    rw [app_chars, textOf_chars r, List.flatMap_cons]
theorem wordOf_eq : ∀ a, a < 8 → ∀ b, b < 8 → ∀ c, c < 8 → addDig (addDig (addDig ((("" : Str), []) : Str × List Str) a) b) c = (textOf [a, b, c], rowTxt (rowOf "any" [a, b, c])) := by decide +kernel
theorem wordOf_is (x : Int) : wordOf x 3 = (textOf (digs x), rowTxt (rowOf "any" (digs x))) := wordOf_eq _ (dig_lt x 0) _ (dig_lt x 1) _ (dig_lt x 2)
theorem digs_lt (x : Int) : ∀ d ∈ digs x, d < 8 := by
  intro d m
  simp only [digs, List.mem_cons, List.not_mem_nil, or_false] at m
  rcases m with rfl | rfl | rfl <;> exact dig_lt ..
theorem pt_plain : ∀ d, d < 8 → (pt d).cps.toList ≠ [] ∧ ∀ c ∈ (pt d).cps.toList, 33 ≤ c ∧ c < 127 := by decide +kernel
theorem word_plain (x : Int) : PlainW (textOf (digs x)) ∧ (textOf (digs x)).length ≤ 100 := by
  refine ⟨⟨?_, ?_⟩, Nat.le_trans (textOf_len _) (by simp [digs])⟩
  · rw [textOf_chars]
    have := (pt_plain _ (dig_lt x 0)).1
    simp [digs, this]
  · intro c m
    rw [textOf_chars, List.mem_flatMap] at m
    obtain ⟨d, m, e⟩ := m
    exact (pt_plain d (digs_lt x d m)).2 c e
/-! the two foldings agree -/
structure SameF (a : List Str × List (Str × Str)) (b : List Str × Str) : Prop where
  ls : a.1 = b.1
  cur : catParts a.2 = b.2
  ne : a.2 ≠ []
theorem sameF_step {width : Int} {a : List Str × List (Str × Str)} {b : List Str × Str} {t : Str} (h : SameF a b) : SameF (stepA width a ((" " : Str), t)) (stepL width b t) := by
  obtain ⟨h1, h2, h3⟩ := h
  have e1 := lens_snoc a.2 ((" " : Str), t)
  have e2 := catParts_len a.2
  have c1 : (Str.ofString " ").length = 1 := rfl
  rw [h2] at e2
  dsimp only at e1
  unfold stepA stepL
  by_cases hw : width < (b.2.length : Int) + 1 + t.length
  · rw [if_pos (by rw [e1, c1]; push_cast; omega), if_neg h3, if_pos hw]
    refine ⟨by rw [h1, h2], str_eq ?_, by simp⟩
    rw [catParts_chars, app_chars, app_chars]
    have c0 : (Str.ofString "").cps.toList = [] := rfl
    simp [c0]
  · rw [if_neg (by rw [e1, c1]; push_cast; omega), if_neg hw]
    refine ⟨h1, str_eq ?_, by simp⟩
    rw [catParts_chars, app_chars, app_chars, ← h2, catParts_chars, List.flatMap_append]
    simp
theorem sameF_run {width : Int} : ∀ (ts : List Str) {a : List Str × List (Str × Str)} {b : List Str × Str}, SameF a b → SameF (ts.foldl (fun st t => stepA width st ((" " : Str), t)) a) (ts.foldl (stepL width) b)
  | [], _, _, h => h
  | t :: ts, _, _, h => sameF_run ts (sameF_step h)
theorem linesA_eq (width : Int) (t0 : Str) (ts : List Str) : linesA width t0 ts = linesL width t0 ts := by
  have h0 : SameF (([] : List Str), [(("" : Str), t0)]) (([] : List Str), t0) := by
    refine ⟨rfl, str_eq ?_, by simp⟩
    have c0 : (Str.ofString "").cps.toList = [] := rfl
    rw [catParts_chars]
    simp [c0]
  obtain ⟨h1, h2, -⟩ := sameF_run (width := width) ts h0
  unfold linesA linesL runA runL
  rw [h1, h2]
/-! the lines as digits -/
noncomputable def stepD (width : Int) (st : List (List Nat) × List Nat) (d : List Nat) : List (List Nat) × List Nat := if width < ((textOf st.2).length : Int) + 1 + (textOf d).length then (st.1 ++ [st.2], 8 :: d) else (st.1, st.2 ++ 8 :: d)
noncomputable def linesD (width : Int) (d0 : List Nat) (dss : List (List Nat)) : List (List Nat) := (dss.foldl (stepD width) (([] : List (List Nat)), d0)).1 ++ [(dss.foldl (stepD width) (([] : List (List Nat)), d0)).2]
noncomputable def wholeD (d0 : List Nat) (dss : List (List Nat)) : List Nat := d0 ++ dss.flatMap (8 :: ·)
noncomputable def rowW (sign : Str) (d0 : List Nat) (dss : List (List Nat)) : List (Option Str) := rowOf sign d0 ++ dss.flatMap fun d => blank :: rowOf sign d
theorem runD_text {width : Int} : ∀ (dss : List (List Nat)) (st : List (List Nat) × List Nat), (dss.map textOf).foldl (stepL width) (st.1.map textOf, textOf st.2) = ((dss.foldl (stepD width) st).1.map textOf, textOf (dss.foldl (stepD width) st).2)
  | [], _ => rfl
  | d :: dss, st => by
    rw [List.map_cons, List.foldl_cons, List.foldl_cons, ← runD_text dss]
    congr 1
    unfold stepL stepD
    dsimp only
    split
    · rw [List.map_append]; rfl
    · rw [textOf_append]
      show (_, (textOf st.2 ++ " ") ++ textOf d) = (_, textOf st.2 ++ (" " ++ textOf d))
      rw [Str.append_assoc]
theorem linesL_text (width : Int) (d0 : List Nat) (dss : List (List Nat)) : linesL width (textOf d0) (dss.map textOf) = (linesD width d0 dss).map textOf := by
  have := runD_text (width := width) dss (([] : List (List Nat)), d0)
  unfold linesL runL linesD
  rw [List.map_append]
  show _ = _ ++ [_]
  rw [show (([] : List Str), textOf d0) = ((([] : List (List Nat)), d0).1.map textOf, textOf (([] : List (List Nat)), d0).2) from rfl, this]
theorem addRows_from (sign : Str) : ∀ (ds : List Nat) (r q : List (Option Str)), r ≠ [] ∨ q.getLast? ≠ some none → ds.foldl (addRow sign) (q ++ r) = q ++ ds.foldl (addRow sign) r
  | [], _, _, _ => rfl
  | d :: ds, r, q, h => by
    have e : addRow sign (q ++ r) d = q ++ addRow sign r d := by
      unfold addRow
      cases r with
      | nil =>
        have h' := h.resolve_left (by simp)
        rw [List.append_nil, if_neg (fun e => h' e.2), if_neg (fun e => by simp at e)]; rfl
      | cons a r =>
        rw [List.getLast?_append]
        simp only [List.getLast?_cons, Option.some_or]
        split
        · rfl
        · rw [List.append_assoc]
    rw [List.foldl_cons, List.foldl_cons, e]
    refine addRows_from sign ds _ q ?_
    cases r with
    | nil =>
      refine .inl ?_
      unfold addRow
      rw [if_neg (fun e => by simp at e)]; simp
    | cons a r =>
      refine .inl ?_
      unfold addRow
      split <;> simp
theorem rowOf_blank (sign : Str) (d : List Nat) : rowOf sign (8 :: d) = blank :: rowOf sign d := by
  have := addRows_from sign d [] [blank] (.inr (by simp [blank]))
  exact this
theorem rowOf_join (sign : Str) (a d : List Nat) : rowOf sign (a ++ 8 :: d) = rowOf sign a ++ blank :: rowOf sign d := by
  unfold rowOf
  rw [List.foldl_append, List.foldl_cons]
  have e : addRow sign (a.foldl (addRow sign) []) 8 = a.foldl (addRow sign) [] ++ [blank] := by
    unfold addRow
    rw [if_neg (fun e => by simp at e)]; rfl
  have := addRows_from sign d [] (a.foldl (addRow sign) [] ++ [blank]) (.inr (by simp [blank]))
  rw [List.append_nil] at this
  rw [e, this, List.append_assoc]; rfl
theorem rowOf_whole (sign : Str) : ∀ (dss : List (List Nat)) (d0 : List Nat), rowOf sign (wholeD d0 dss) = rowW sign d0 dss
  | [], d0 => by simp [wholeD, rowW]
  | d :: dss, d0 => by
    have ih := rowOf_whole sign dss (d0 ++ 8 :: d)
    unfold wholeD rowW at ih ⊢
    rw [List.flatMap_cons, List.flatMap_cons, ← List.append_assoc, ih, rowOf_join]
    simp
theorem runD_row (sign : Str) {width : Int} : ∀ (dss : List (List Nat)) (st : List (List Nat) × List Nat), ((dss.foldl (stepD width) st).1 ++ [(dss.foldl (stepD width) st).2]).flatMap (rowOf sign) = (st.1.flatMap (rowOf sign) ++ rowOf sign st.2) ++ dss.flatMap fun d => blank :: rowOf sign d
  | [], st => by simp
  | d :: dss, st => by
    rw [List.foldl_cons, runD_row sign dss, List.flatMap_cons, ← List.append_assoc]
    congr 1
    unfold stepD
    split
    · simp [rowOf_blank]
    · simp [rowOf_join]
theorem linesD_row (sign : Str) (width : Int) (d0 : List Nat) (dss : List (List Nat)) : (linesD width d0 dss).flatMap (rowOf sign) = rowOf sign (wholeD d0 dss) := by
  rw [rowOf_whole]
  have := runD_row sign (width := width) dss (([] : List (List Nat)), d0)
  simpa [linesD, rowW] using this
theorem partsL_row (d0 : List Nat) : ∀ (dss : List (List Nat)) , partsL (rowTxt (rowOf "any" d0)) (dss.map fun d => rowTxt (rowOf "any" d)) = rowTxt (rowOf "any" (wholeD d0 dss)) := by
  intro dss
  rw [rowOf_whole]
  have : ∀ (dss : List (List Nat)) (r : List Str), partsL r (dss.map fun d => rowTxt (rowOf "any" d)) = r ++ rowTxt (dss.flatMap fun d => blank :: rowOf "any" d) := by
    intro dss
    induction dss with
    | nil => intro r; simp [partsL, rowTxt]
    | cons d dss ih =>
      intro r
      rw [List.map_cons]
      show partsL ((r ++ [("\\ " : Str)]) ++ rowTxt (rowOf "any" d)) _ = _
      rw [ih, List.flatMap_cons, rowTxt_append, List.append_assoc, List.append_assoc]
      rfl
  rw [this, rowW, rowTxt_append]
/-! bounds -/
theorem wholeD_len (d0 : List Nat) (dss : List (List Nat)) (h0 : d0.length ≤ 3) (h : ∀ d ∈ dss, d.length ≤ 3) : (wholeD d0 dss).length ≤ 3 + 4 * dss.length := by
  unfold wholeD
  rw [List.length_append]
  have : (dss.flatMap (8 :: ·)).length ≤ 4 * dss.length := by
    clear h0
    induction dss with
    | nil => exact Nat.le_refl _
    | cons a r ih =>
      have h1 := h a (List.mem_cons_self ..)
      have h2 := ih fun d m => h d (List.mem_cons_of_mem _ m)
      rw [List.flatMap_cons, List.length_append, List.length_cons, List.length_cons]
      omega
  omega
theorem runD_ok {width : Int} : ∀ (dss : List (List Nat)) (st : List (List Nat) × List Nat) (k n : Nat), (∀ d ∈ dss, (∀ x ∈ d, x < 9) ∧ d.length ≤ 3) → (∀ l ∈ st.1, (∀ x ∈ l, x < 9) ∧ l.length ≤ 4 * n) → ((∀ x ∈ st.2, x < 9) ∧ st.2.length ≤ 4 * k) → k ≤ n → st.1.length ≤ k →
    k + dss.length ≤ n → (∀ l ∈ (dss.foldl (stepD width) st).1 ++ [(dss.foldl (stepD width) st).2], (∀ x ∈ l, x < 9) ∧ l.length ≤ 4 * n) ∧ ((dss.foldl (stepD width) st).1 ++ [(dss.foldl (stepD width) st).2]).length ≤ n + 1
  | [], st, k, n, _, h1, h2, hk, h3, _ => by
    refine ⟨fun l m => ?_, by simp; omega⟩
    rcases List.mem_append.mp m with m | m
    · exact h1 l m
    · rw [List.mem_singleton.mp m]; exact ⟨h2.1, by show st.2.length ≤ _; omega⟩
  | d :: dss, st, k, n, hd, h1, h2, hk, h3, hn => by
    rw [List.length_cons] at hn
    rw [List.foldl_cons]
    have hd0 := hd d (List.mem_cons_self ..)
    refine runD_ok dss _ (k + 1) n (fun x m => hd x (List.mem_cons_of_mem _ m)) ?_ ?_ (by omega) ?_ (by omega)
    · unfold stepD
      split
      · intro l m
        rcases List.mem_append.mp m with m | m
        · exact h1 l m
        · rw [List.mem_singleton.mp m]; exact ⟨h2.1, by omega⟩
      · exact h1
    · unfold stepD
      split
      · refine ⟨fun x m => ?_, by simp; omega⟩
        rcases List.mem_cons.mp m with rfl | m
        · decide
        · exact hd0.1 x m
      · refine ⟨fun x m => ?_, by simp; omega⟩
        rcases List.mem_append.mp m with m | m
        · exact h2.1 x m
        · rcases List.mem_cons.mp m with rfl | m
          · decide
          · exact hd0.1 x m
    · unfold stepD
      split
      · simp; omega
      · exact Nat.le_succ_of_le h3
theorem linesD_ok {width : Int} {d0 : List Nat} {dss : List (List Nat)} (h : ∀ d ∈ d0 :: dss, (∀ x ∈ d, x < 9) ∧ d.length ≤ 3) (hn : dss.length ≤ 11) : (∀ l ∈ linesD width d0 dss, (∀ x ∈ l, x < 9) ∧ l.length ≤ 50) ∧ (linesD width d0 dss).length ≤ 50 := by
  have h0 := h d0 (List.mem_cons_self ..)
  have := runD_ok (width := width) dss (([] : List (List Nat)), d0) 1 12 (fun d m => h d (List.mem_cons_of_mem _ m)) (fun l m => (List.not_mem_nil m).elim) ⟨h0.1, by show d0.length ≤ _; omega⟩ (by omega) (by simp) (by omega)
  refine ⟨fun l m => ?_, ?_⟩
  · have q := this.1 l m
    exact ⟨q.1, by omega⟩
  · exact Nat.le_trans this.2 (by decide)
/-! no two stars beside each other; the parts' texts are short -/
noncomputable def NoTwo (r : List (Option Str)) : Prop := ∀ k, r[k]? = some none → r[k + 1]? ≠ some none
theorem partOf_zero {sign : Str} {d : Nat} (h : d < 9) (e : partOf sign d = none) : d = 0 := by
  obtain rfl | rfl | rfl | rfl | rfl | rfl | rfl | rfl | rfl : d = 0 ∨ d = 1 ∨ d = 2 ∨ d = 3 ∨ d = 4 ∨ d = 5 ∨ d = 6 ∨ d = 7 ∨ d = 8 := by omega
  · rfl
  all_goals cases e
theorem noTwo_add {sign : Str} {r : List (Option Str)} {d : Nat} (hd : d < 9) (h : NoTwo r) : NoTwo (addRow sign r d) := by
  unfold addRow
  split
  · exact h
  · next hc =>
    intro k e1 e2
    by_cases hk : k + 1 < r.length
    · rw [List.getElem?_append_left (by omega)] at e1
      rw [List.getElem?_append_left hk] at e2
      exact h k e1 e2
    · by_cases hk2 : k + 1 = r.length
      · rw [List.getElem?_append_left (by omega)] at e1
        rw [hk2, List.getElem?_append_right (Nat.le_refl _), Nat.sub_self] at e2
        have e3 : partOf sign d = none := by simpa using e2
        refine hc ⟨partOf_zero hd e3, ?_⟩
        rw [List.getLast?_eq_getElem?, show r.length - 1 = k by omega]; exact e1
      · rw [List.getElem?_append_right (by omega)] at e2
        cases q : k + 1 - r.length with
        | zero => omega
        | succ n => rw [q] at e2; simp at e2
theorem noTwo_run {sign : Str} : ∀ (ds : List Nat) (r : List (Option Str)), (∀ d ∈ ds, d < 9) → NoTwo r → NoTwo (ds.foldl (addRow sign) r)
  | [], _, _, h => h
  | d :: ds, r, hd, h => noTwo_run ds _ (fun x m => hd x (List.mem_cons_of_mem _ m)) (noTwo_add (hd d (List.mem_cons_self ..)) h)
theorem rowOf_noTwo {sign : Str} {ds : List Nat} (hd : ∀ d ∈ ds, d < 9) : NoTwo (rowOf sign ds) := noTwo_run ds [] hd fun k e => by cases e
theorem partOf_short {sign : Str} (hs : sign.length ≤ 100) (d : Nat) (x : Str) (e : partOf sign d = some x) : x.length ≤ 100 := by
  match d, e with
  | 1, e => cases e; exact hs
  | 2, e | 3, e | 4, e | 5, e | 6, e | 7, e | 8, e => cases e; decide +kernel
theorem rowOf_short {sign : Str} (hs : sign.length ≤ 100) : ∀ (ds : List Nat) (r : List (Option Str)), (∀ x, some x ∈ r → x.length ≤ 100) → ∀ x, some x ∈ ds.foldl (addRow sign) r → x.length ≤ 100
  | [], _, h => h
  | d :: ds, r, h => by
    refine rowOf_short hs ds _ ?_
    intro x m
    unfold addRow at m
    split at m
    · exact h x m
    · rcases List.mem_append.mp m with m | m
      · exact h x m
      · exact partOf_short hs d x (List.mem_singleton.mp m).symm
end
section
example : True := by
  k_with "goT" =>
    repeat' (first | ((with_reducible show wpAny _ _ (storeName _ _ _) _ _ _); dsimp only) | ((with_reducible show wpAny _ _ (call (Value.ref 230) _) _ _ _); show Hold _) | ((with_reducible show wpAny _ _ (binaryOp _ (Value.ref _) (Value.ref _)) _ _ _); show Hold _) | ((with_reducible show wpAny _ _ (pyIter (Value.ref _)) _ _ _); show Hold _) | ((with_reducible refine wpAny_For ?qhz (hs := ?qhsz)); (case qhsz => (intro _; rfl))) | ((with_reducible show wpAny _ _ (execs _ _) _ _ _); ((with_reducible refine' gen_toks ?qhz ?_); (case qhz => walk_at "my_lo")); intro _ _) | (k_unfold; (try dsimp only)) | walk1 | (dsimp only; walk1) | fail "no step")
  trivial

theorem strsAre_at {vs : List Value} {ls : List Str} (h : StrsAre vs ls) : ∀ {j : Nat} {v : Value}, vs[j]? = some v → ∃ x t, ls[j]? = some x ∧ v = .str x t := by
  induction h with
  | nil => intro j v e; cases e
  | cons a t _ ih =>
    intro j v e
    cases j with
    | zero => cases e; exact ⟨a, t, rfl, rfl⟩
    | succ j => exact ih e
theorem rows_le (sign : Str) (dss : List (List Nat)) (h : ∀ ds ∈ dss, ds.length ≤ 50) : (dss.flatMap (rowOf sign)).length ≤ 50 * dss.length := by
  induction dss with
  | nil => exact Nat.le_refl _
  | cons a r ih =>
    have h1 := rowOf_le sign a
    have h2 := h a (List.mem_cons_self ..)
    have h3 := ih fun x m => h x (List.mem_cons_of_mem _ m)
    rw [List.flatMap_cons, List.length_append, List.length_cons]
    omega
theorem inturn_spec {w : World} {A : Around} {s : Shared} {g : Heap} {p : Program} {loose : List Str} {mg mb : Str → Option Value} {l : Addr} {its : Array Value} {n : Nat} {dss : List (List Nat)} {V : Value} {sign : Str} {tq : Tok} {Q E : Value → Shared → Prop}
    (G : Gd w p loose mg mb g) (st : g.StaysIn s.heap) (hT : TabI 225 s.heap) (hgT : g.get? 225 = none) (hh : A.handled = none) (hu : A.units + 600 < cLine) (hr : A.depth + 14 < recursionLimit) (hB : AllBare s.gens)
    (hl : s.heap.get? l = some (lstObj its n)) (hS : StrsAre its.toList (dss.map textOf)) (hds : ∀ ds ∈ dss, (∀ d ∈ ds, d < 9) ∧ ds.length ≤ 50) (hn : dss.length ≤ 50) (hp : TrPre V sign tq s.toks)
    (h_ : ∀ h' gs tk D us nu, s.heap.get? D = none → h'.get? D = some (lstObj us nu) → TrRow V us.toList (dss.flatMap (rowOf sign)) → s.toks ≤ tk → TabI 225 h' → AllBare gs → (∀ b o, b ≠ 225 → s.heap.get? b = some o → h'.get? b = some o) → Q (.ref D) ⟨h', gs, s.drawn, tk, s.os⟩) :
    wpAny (model PR w) A (call (.ref 272) [.ref l, V, .str sign tq]) Q E s := by
  obtain ⟨tb1, hP1, htr1⟩ := hT
  have hl225 : @Ne Nat l 225 := fun q => by
    have q' : l = 225 := q
    rw [q', hP1] at hl; cases hl
  refine wpAny_call ?_
  refine' enter (binds := [("lines", .ref l), ("star", V), ("sign", .str sign tq)]) (led := [(225, tabObj tb1)]) G.K G.T st ?hl ?ho ?hcd (om_0 hr) ?hb ?hloc ?_ ?hcell ?hco ?hgen ?hk
  case hl => simp only [List.forall_mem_cons, hP1, hgT, and_self, List.not_mem_nil, false_imp_iff, implies_true]
  case ho => k_is
  case hcd => k_is
  case hb => exact BindsTo.of_eq rfl
  case hloc => rfl
  case hcell => decide
  case hco => rfl
  case hgen => rfl
  case hk => rfl
  intro g' h₁ kp st' kp₁ F' N' X' T'
  have G' : Gd w p loose mg mb g' := ⟨X', T', G.B.keeps st'⟩
  have hlg : g'.get? l = some (lstObj its n) := kp _ _ hl (by simp only [List.map_cons, List.map_nil, List.mem_cons, List.not_mem_nil, or_false]; exact hl225)
  have hlo0 : TokLo s.toks s.toks := ⟨Nat.le_refl _⟩
  k_extra "goT"
  show wpAny _ _ _ _ _ _
  rename Fr _ _ _ _ => F
  rename News _ _ _ _ => N
  rename_i R _ l1 _ tk _
  have hRn := N (R, listOf #[] 0) (by k_mem)
  have hTn := N (225, tabObj tb1) (by k_mem)
  refine iter_listK (F.keep _ _ hlg) fun I h2 q2 hI k2 => ?_
  have F2 := fr_all F k2
  have hIL : @Ne Nat I s.heap.objs.size ∧ g'.get? I = none := by
    obtain ⟨o', es, ep, eL, _⟩ := F.ns
    refine ⟨fun r => ?_, ?_⟩
    · have r' : I = s.heap.objs.size := r
      rw [r', eL] at q2; cases q2
    · cases r : g'.get? I with
      | none => rfl
      | some y => rw [F.keep _ _ r] at q2; cases q2
  have hI225 : Apart 225 I := fun r => by
    have r' : 225 = I := r
    rw [← r', hTn.1] at q2; cases q2
  have hlI : @Ne Nat l I := ne_of_none (F.keep _ _ hlg) q2
  refine for_listT (l := l) (items := its) (n0 := s.toks) (Inv := fun j m h => ∃ (D : Addr) (rv : Array Value) (n : Nat), m "row" = some (.ref D) ∧ m "star" = some V ∧ m "sign" = some (.str sign tq) ∧ h.get? D = some (lstObj rv n) ∧ TrRow V rv.toList ((dss.take j).flatMap (rowOf sign)) ∧ (@Ne Nat D s.heap.objs.size ∧ g'.get? D = none) ∧ TabI 225 h)
    (by walk_at "my_lo") hh hI ⟨_, F2.keep _ _ hlg, rfl, _, rfl⟩ hIL.2 hIL.1 hlI F2 hB ?stab ?h0 ?turn ?done
  case stab =>
    rintro j m h h' ⟨D, rv, n, a1, a2, a3, a4, a5, a6, tb, a7, a8⟩ hF ⟨o, e1, e2, -⟩ k
    refine ⟨D, rv, n, a1, a2, a3, k _ _ a6.1 (fun q => ?_) a4, a5, a6, tb, k _ _ hTn.2.1 (fun q => ?_) a7, a8⟩
    · have q' : D = I := q
      rw [q', e1] at a4; cases a4; have c' : Value.type "list" = Value.type "list_iterator" := e2; injection c' with c''; exact absurd c'' (by decide)
    · exact hI225 q
  case h0 => exact ⟨R, #[], 0, rfl, rfl, rfl, k2 _ _ hRn.1, .nil, hRn.2, tb1, k2 _ _ hTn.1, htr1⟩
  case turn =>
    rintro j v m₁ h gs tk oI oL hx hlo F1 hInv hBg hoI hoL
    refine hide_Q2 fun Q' E' hQ' => ?_
    obtain ⟨D, rv, n, a1, a2, a3, a4, a5, a6, tb, a7, htr⟩ := hInv
    obtain ⟨x, t, hxl, rfl⟩ := strsAre_at hS (show its.toList[j]? = some v by rw [Array.getElem?_toList]; exact hx)
    rw [List.getElem?_map] at hxl
    obtain ⟨ds, hdj, rfl⟩ := Option.map_eq_some_iff.mp hxl
    have hd := hds ds (List.mem_of_getElem? hdj)
    have F2' := fr_knowns [("row", .ref D), ("star", V), ("sign", .str sign tq)] F1 (by
      simp only [List.forall_mem_cons, List.not_mem_nil, false_imp_iff, implies_true, and_true]
      exact ⟨a1, a2, a3⟩)
    have hD225 : Apart D 225 := fun r => by
      have r' : D = 225 := r
      rw [r', a7] at a4; cases a4
    have N2 : News g' s.heap.objs.size h [(D, lstObj rv n), (225, tabObj tb), (I, oI)] := news3 ⟨a4, a6⟩ ⟨a7, hTn.2⟩ ⟨hoI, hIL⟩
    have hrl : rv.size ≤ 50 * 50 := by
      have e1 := a5.length
      rw [Array.length_toList] at e1
      have e2 := rows_le sign (dss.take j) fun ds m => (hds ds (List.mem_of_mem_take m)).2
      have e3 : (dss.take j).length ≤ dss.length := by rw [List.length_take]; omega
      omega
    have a5' : Hold (TrRow V rv.toList ((dss.take j).flatMap (rowOf sign))) := a5
    have eoL := Option.some.inj ((F1.keep _ _ hlg).symm.trans hoL)
    clear F F1 F2 N a1 a2 a3 a4 a7 hRn hI q2 k2 l1 a5
    k_extra "goT"
    show wpAny _ _ _ _ _ _
    rename Fr _ _ _ _ => F
    rename News _ _ _ _ => N
    refine' translate_F (n0 := s.toks) G' F N ?hm htr ?U hh (show A.units + 3 + 400 < cLine from om_u hu (by decide)) ?r hBg rfl hd.1 hd.2 hp ?lo ?_
    case hm => k_mem
    case U => intro tb'; k_upd
    case r => k_extra "my_room"
    case lo => walk_at "my_lo"
    intro h3 gs3 tk3 D3 us3 nu3 tb3 htr3 hB3 F3 N3 lt3 hr3 hlo3
    ((replace lt3 := allNe_of lt3); (simp only [AllNe, and_true] at lt3); (repeat ((have _ := And.left lt3); (replace lt3 := And.right lt3))))
    clear F N
    have hr3' : Hold (TrRow V us3.toList (rowOf sign ds)) := hr3
    have hz3 : us3.size ≤ 50 := by
      have e1 := hr3.length
      have e2 := rowOf_le sign ds
      rw [Array.length_toList] at e1
      omega
    clear hr3
    k_extra "goT"
    show wpAny _ _ _ _ _ _
    rename Fr _ _ _ _ => F
    rename News _ _ _ _ => N
    refine add_listK (N (D, lstObj rv n) (by k_mem)).1 (N (D3, _) (by k_mem)).1 (by rw [sizeLine_eq]; omega) (fun D4 h4 q4 hD4 k4 => ?_)
    have F4 := fr_all F k4
    have N4 := news_new F N q4 hD4 k4
    clear F N
    k_extra "goT"
    rename Fr _ _ _ _ => F
    rename News _ _ _ _ => N
    refine hQ' _ _ (show Hold _ from ⟨rfl, _, _, _, _, rfl, hB3, F, ⟨D4, _, _, rfl, rfl, rfl, (N (D4, _) (by k_mem)).1, ?_, (N (D4, _) (by k_mem)).2, tb3, (N (225, tabObj tb3) (by k_mem)).1, htr3⟩, (N (I, oI) (by k_mem)).1, ?_⟩)
    · rw [List.take_add_one, hdj]
      show TrRow V _ (List.flatMap _ (_ ++ [ds]))
      rw [List.flatMap_append, Array.toList_append]
      refine TrRow.append a5' ?_
      simp only [List.flatMap_cons, List.flatMap_nil, List.append_nil]
      exact hr3'
    · exact eoL ▸ F.keep _ _ hlg
  case done =>
    rintro h' gs' tk' m' hlo' F3 ⟨D, rv, n, a1, a2, a3, a4, a5, a6, tb, a7, htr⟩ hB3
    have F4 := fr_knowns [("row", .ref D)] F3 (by
      simp only [List.forall_mem_cons, List.not_mem_nil, false_imp_iff, implies_true, and_true]
      exact a1)
    have e : dss.take its.size = dss := by
      have e1 := strsAre_len hS
      rw [List.length_map, Array.length_toList] at e1
      rw [e1, List.take_length]
    rw [e] at a5
    clear F F2 F3 N hRn
    dsimp only
    k_extra "goT"
    refine h_ _ _ _ _ _ _ ?_ a4 a5 (TokLo.le (by walk_at "my_lo")) ⟨tb, a7, htr⟩ hB3 (fun b o hb e => F4.keep _ _ (kp _ _ e (by simp only [List.map_cons, List.map_nil, List.mem_cons, List.not_mem_nil, or_false]; exact hb)))
    cases q : s.heap.get? D with
    | none => rfl
    | some o =>
      by_cases e1 : D = 225
      · rw [e1, a7] at a4; cases a4
      · have h3 := a6.2
        rw [kp _ _ q (by simp only [List.map_cons, List.map_nil, List.mem_cons, List.not_mem_nil, or_false]; exact e1)] at h3; cases h3
end
section
noncomputable def IsSelf (V : Value) : Prop := ∀ (w : World) (A : Around) (Q : Value → Shared → Prop) (E : Value → Shared → Prop) (s : Shared), Q (.bool true) s → wpAny (model PR w) A (compareOp .Is V V) Q E s
theorem isSelf_ref {a : Addr} : IsSelf (.ref a) := fun _ _ _ _ _ h => wpAny_is_ref_self h
theorem isSelf_str {m : Str} {tm : Tok} (h2 : tm ≠ 0) : IsSelf (.str m tm) := by
  intro w A Q E st hq
  show wpAny _ _ (do return .bool (← isSame (.str m tm) (.str m tm))) Q E st
  refine wpAny_bind ?_
  show wpAny _ _ (isSame.created (m == m) tm tm) _ _ _
  unfold isSame.created
  refine KFB.if_not (by simp [h2]) ?_
  exact KFB.if_so (by simp) (wpAny_pure (wpAny_pure hq))
theorem isNot_ne {V x : Value} {w : World} {A : Around} {Q : Value → Shared → Prop} {E : Value → Shared → Prop} {s : Shared} (k : NotSame V x) (h : Q (.bool true) s) : wpAny (model PR w) A (compareOp .IsNot x V) Q E s := k w A Q E s h
theorem isNot_self {V : Value} {w : World} {A : Around} {Q : Value → Shared → Prop} {E : Value → Shared → Prop} {s : Shared} (k : SelfSame V) (h : Q (.bool false) s) : wpAny (model PR w) A (compareOp .IsNot V V) Q E s := k w A Q E s h
theorem is_self {V : Value} {w : World} {A : Around} {Q : Value → Shared → Prop} {E : Value → Shared → Prop} {s : Shared} (k : IsSelf V) (h : Q (.bool true) s) : wpAny (model PR w) A (compareOp .Is V V) Q E s := k w A Q E s h
structure ItemIs (us : Array Value) (k off : Nat) (v : Value) : Prop where
  ex : us[k + off]? = some v
theorem sub_listC {prog : Program} {w : World} {A : Around} {E : Value → Shared → Prop} {s : Shared} {l : Addr} {us : Array Value} {n k off : Nat} {value slice : Expr} {i : Int} {u : Tok} {v : Value} {ops : List Value} {Q : Value → Shared → Prop} (hl : s.heap.get? l = some (lstObj us n)) (hc : ItemIs us k off v) (hi : i = (k : Int) + (off : Int)) (hz : Small us.size)
    (h : Q v s) (hs : subscripted slice false (.ref l) (.int i u) = operate ops (getItem (.ref l) (.int i u))) : wpAny (model prog w) A (subscriptTail value slice (.ref l) (.int i u)) Q E s := by
  have e := hc.ex
  obtain ⟨q, -⟩ := Array.getElem?_eq_some_iff.mp e
  unfold Small at hz
  refine sub_list hl (by omega) (by omega) (x := v) ?_ h hs
  rw [show i.toNat = k + off by omega]; exact e
noncomputable def headT : List (Option Str) → List Str
  | some x :: r => x :: headT r
  | _ => []
noncomputable def restT : List (Option Str) → List (Option Str)
  | some _ :: r => restT r
  | r => r
noncomputable def starsOf : Nat → List (Option Str) → List Str
  | 0, _ => []
  | _ + 1, [] => []
  | _ + 1, some _ :: _ => []
  | n + 1, none :: r => if r = [] then [".*"] else if restT r = [] then [".*", Txt.join "" (headT r)] else (Str.empty ++ "(?>.*?" ++ Txt.join "" (headT r) ++ ")") :: starsOf n (restT r)
noncomputable def starsAll (row : List (Option Str)) : List Str := starsOf row.length row
noncomputable def joinAll (row : List (Option Str)) : List Str := headT row ++ starsAll (restT row)
noncomputable def joinedOf (row : List (Option Str)) : Str := Str.empty ++ "(?s:" ++ Txt.join "" (joinAll row) ++ ")\\Z"
theorem restT_le : ∀ r : List (Option Str), (restT r).length + (headT r).length = r.length
  | [] => rfl
  | none :: r => rfl
  | some x :: r => by
    show (restT r).length + ((headT r).length + 1) = r.length + 1
    have := restT_le r
    omega
theorem starsOf_fuel : ∀ (n m : Nat) (row : List (Option Str)), row.length ≤ n → row.length ≤ m → starsOf n row = starsOf m row
  | 0, m, row, h, _ => by
    have e : row = [] := List.length_eq_zero_iff.mp (by omega)
    rw [e]
    cases m <;> rfl
  | n + 1, 0, row, _, h => by
    have e : row = [] := List.length_eq_zero_iff.mp (by omega)
    rw [e]
    rfl
  | n + 1, m + 1, [], _, _ => rfl
  | n + 1, m + 1, some x :: r, _, _ => rfl
  | n + 1, m + 1, none :: r, h, h' => by
    have e := restT_le r
    simp only [List.length_cons] at h h'
    simp only [starsOf]
    rw [starsOf_fuel n m (restT r) (by omega) (by omega)]
theorem stars_nil : starsAll [] = [] := rfl
theorem stars_one : starsAll [none] = [(".*" : Str)] := rfl
theorem stars_end {r : List (Option Str)} (h : r ≠ []) (k : restT r = []) : starsAll (none :: r) = [(".*" : Str), Txt.join "" (headT r)] := by
  show starsOf (r.length + 1) (none :: r) = _
  rw [starsOf, if_neg h, if_pos k]
theorem stars_more {r : List (Option Str)} (k : restT r ≠ []) : starsAll (none :: r) = (Str.empty ++ "(?>.*?" ++ Txt.join "" (headT r) ++ ")") :: starsAll (restT r) := by
  have h : r ≠ [] := fun q => k (by rw [q]; rfl)
  have e := restT_le r
  show starsOf (r.length + 1) (none :: r) = _
  rw [starsOf, if_neg h, if_neg k, starsAll, starsOf_fuel r.length _ (restT r) (by omega) (Nat.le_refl _)]
theorem drop_at {α : Type} {l : List α} {k : Nat} {x : α} (h : l[k]? = some x) : l.drop k = x :: l.drop (k + 1) := by
  obtain ⟨q, e⟩ := List.getElem?_eq_some_iff.mp h
  rw [List.drop_eq_getElem_cons q, e]
theorem head_txt {row : List (Option Str)} {k : Nat} {x : Str} (h : row[k]? = some (some x)) : headT (row.drop k) = x :: headT (row.drop (k + 1)) ∧ restT (row.drop k) = restT (row.drop (k + 1)) := by
  rw [drop_at h]; exact ⟨rfl, rfl⟩
theorem txt_step {row : List (Option Str)} {k : Nat} {x : Str} {out a : List Str} {b : List (Option Str)} (h : row[k]? = some (some x)) (e : out ++ headT (row.drop k) = a ∧ restT (row.drop k) = b) : (out ++ [x]) ++ headT (row.drop (k + 1)) = a ∧ restT (row.drop (k + 1)) = b := by
  obtain ⟨e1, e2⟩ := head_txt h
  rw [e1] at e
  refine ⟨?_, e2 ▸ e.2⟩
  rw [← e.1, List.append_assoc]; rfl
theorem star_here {row : List (Option Str)} {k : Nat} {out a : List Str} {b : List (Option Str)} (h : row[k]? = some none) (e : out ++ headT (row.drop k) = a ∧ restT (row.drop k) = b) : out = a ∧ row.drop k = b := by
  rw [drop_at h] at e ⊢
  have e1 : out ++ [] = a := e.1
  exact ⟨by rw [← e1, List.append_nil], e.2⟩
theorem at_end {row : List (Option Str)} {k : Nat} {out a : List Str} {b : List (Option Str)} (h : k = row.length) (e : out ++ headT (row.drop k) = a ∧ restT (row.drop k) = b) : out = a ∧ row.drop k = b ∧ b = [] := by
  have e0 : row.drop k = [] := by rw [h, List.drop_length]
  rw [e0] at e ⊢
  have e1 : out ++ [] = a := e.1
  have e2 : [] = b := e.2
  exact ⟨by rw [← e1, List.append_nil], e2, e2.symm⟩
noncomputable def wtT : List (Option Str) → Nat
  | [] => 0
  | none :: r => 8 + wtT r
  | some x :: r => x.length + wtT r
noncomputable def lenT (l : List Str) : Nat := (l.map (·.length)).sum
theorem lenT_append (a b : List Str) : lenT (a ++ b) = lenT a + lenT b := by simp [lenT]
theorem wt_split : ∀ r, lenT (headT r) + wtT (restT r) = wtT r
  | [] => rfl
  | none :: r => by
    show lenT [] + wtT (none :: r) = _
    exact Nat.zero_add _
  | some x :: r => by
    have := wt_split r
    show lenT (x :: headT r) + wtT (restT r) = x.length + wtT r
    have e : lenT (x :: headT r) = x.length + lenT (headT r) := by simp [lenT]
    omega
theorem join_len (l : List Str) : (Txt.join "" l).length = lenT l := by
  show (Builtin.Str.glued "" l).length = _
  rw [PySem.size_glued]
  have e0 : ("" : Str).length = 0 := rfl
  rw [e0, Nat.mul_zero]; rfl
theorem stars_wt : ∀ (n : Nat) (row : List (Option Str)), lenT (starsOf n row) ≤ wtT row ∧ (starsOf n row).length ≤ row.length
  | 0, row => ⟨Nat.zero_le _, Nat.zero_le _⟩
  | n + 1, [] => ⟨Nat.zero_le _, Nat.zero_le _⟩
  | n + 1, some x :: r => ⟨Nat.zero_le _, Nat.zero_le _⟩
  | n + 1, none :: r => by
    have e1 := wt_split r
    have e2 := restT_le r
    have e3 := join_len (headT r)
    have c1 : (".*" : Str).length = 2 := rfl
    show lenT (if r = [] then _ else _) ≤ 8 + wtT r ∧ List.length (if r = [] then _ else _) ≤ r.length + 1
    split
    · exact ⟨by show (".*" : Str).length + 0 ≤ _; omega, by show 1 ≤ _; omega⟩
    · next h =>
      have h1 : 1 ≤ r.length := by
        cases r with
        | nil => exact absurd rfl h
        | cons a r => simp
      split
      · refine ⟨?_, by show 2 ≤ _; omega⟩
        show (".*" : Str).length + ((Txt.join "" (headT r)).length + 0) ≤ _
        omega
      · obtain ⟨i1, i2⟩ := stars_wt n (restT r)
        refine ⟨?_, by show (starsOf n (restT r)).length + 1 ≤ _; omega⟩
        show (Str.empty ++ "(?>.*?" ++ Txt.join "" (headT r) ++ ")" : Str).length + lenT (starsOf n (restT r)) ≤ _
        rw [Str.length_append, Str.length_append, Str.length_append]
        have c2 : Str.empty.length = 0 := rfl
        have c3 : ("(?>.*?" : Str).length = 6 := rfl
        have c4 : (")" : Str).length = 1 := rfl
        omega
theorem joinAll_wt (row : List (Option Str)) : lenT (joinAll row) ≤ wtT row ∧ (joinAll row).length ≤ row.length := by
  obtain ⟨a, b⟩ := stars_wt (restT row).length (restT row)
  have e1 := wt_split row
  have e2 := restT_le row
  unfold joinAll starsAll
  rw [lenT_append, List.length_append]
  omega
theorem wt_le {n : Nat} : ∀ row : List (Option Str), (∀ x, some x ∈ row → x.length ≤ 100) → row.length ≤ n → wtT row ≤ 100 * n
  | [], _, _ => Nat.zero_le _
  | none :: r, h, hn => by
    simp only [List.length_cons] at hn
    have := wt_le (n := n - 1) r (fun x m => h x (List.mem_cons_of_mem _ m)) (by omega)
    show 8 + wtT r ≤ _
    omega
  | some x :: r, h, hn => by
    simp only [List.length_cons] at hn
    have := wt_le (n := n - 1) r (fun x m => h x (List.mem_cons_of_mem _ m)) (by omega)
    have := h x (List.mem_cons_self ..)
    show x.length + wtT r ≤ _
    omega
theorem trRow_star {V : Value} {vs : List Value} {row : List (Option Str)} (h : TrRow V vs row) : ∀ {k : Nat}, row[k]? = some none → vs[k]? = some V := by
  induction h with
  | nil => intro k e; cases e
  | star _ ih =>
    intro k e
    cases k with
    | zero => rfl
    | succ k => exact ih e
  | txt _ _ ih =>
    intro k e
    cases k with
    | zero => cases e
    | succ k => exact ih e
theorem trRow_txt {V : Value} {vs : List Value} {row : List (Option Str)} (h : TrRow V vs row) : ∀ {k : Nat} {x : Str}, row[k]? = some (some x) → ∃ t, vs[k]? = some (.str x t) ∧ NotSame V (.str x t) := by
  induction h with
  | nil => intro k x e; cases e
  | star _ ih =>
    intro k x e
    cases k with
    | zero => cases e
    | succ k => exact ih e
  | @txt s t _ _ hn _ ih =>
    intro k x e
    cases k with
    | zero => cases e; exact ⟨t, rfl, hn⟩
    | succ k => exact ih e
end
section
theorem field_any {w : World} {A : Around} {E : Value → Shared → Prop} {s : Shared} {x : Str} {t : Tok} {Q : Value → Shared → Prop} (hx : x.length ≤ 100000) (h : ∀ t' tk, Q (.str x t') { s with toks := tk }) : wpAny (model PR w) A (formatField (.str x t) Str.empty) Q E s :=
  wpAny_formatField_str (h t s.toks) (h s.toks (s.toks + 1)) (Nat.le_trans hx (by rw [sizeLine_eq]; decide))
theorem eq_so {w : World} {A : Around} {Q : Value → Shared → Prop} {E : Value → Shared → Prop} {s : Shared} {a b : Int} {t u : Tok} (e : a = b) (h : Q (.bool true) s) : wpAny (model PR w) A (compareOp .Eq (.int a t) (.int b u)) Q E s := eq_int (by rw [beq_iff_eq.mpr e]; exact h)
theorem eq_not {w : World} {A : Around} {Q : Value → Shared → Prop} {E : Value → Shared → Prop} {s : Shared} {a b : Int} {t u : Tok} (e : a ≠ b) (h : Q (.bool false) s) : wpAny (model PR w) A (compareOp .Eq (.int a t) (.int b u)) Q E s := eq_int (by rw [beq_eq_false_iff_ne.mpr e]; exact h)
example : True := by
  k_with "goJ" =>
    repeat' (first | ((with_reducible show wpAny _ _ (storeName _ _ _) _ _ _); dsimp only) | ((with_reducible show wpAny _ _ (formatField (Value.str _ _) _) _ _ _); (refine field_any (by assumption) ?_); intro _ _; (try dsimp only)) | ((with_reducible show wpAny _ _ (compareOp CmpOp.Eq (Value.int _ _) (Value.int _ _)) _ _ _); (first | (with_reducible refine eq_so (by omega) ?_) | (with_reducible refine eq_not (by omega) ?_)); (try dsimp only)) | ((with_reducible show wpAny _ _ (compareOp CmpOp.IsNot (Value.str _ _) _) _ _ _); (refine isNot_ne (by assumption) ?_)) | ((with_reducible show wpAny _ _ (compareOp CmpOp.IsNot _ _) _ _ _); (refine isNot_self (by assumption) ?_)) | ((with_reducible show wpAny _ _ (compareOp CmpOp.Is _ _) _ _ _); (refine is_self (by assumption) ?_)) | ((with_reducible show wpAny _ _ (subscriptTail _ _ (Value.ref _) (Value.int _ _)) _ _ _); (first | (refine' sub_listC (off := 0) ?qhlz ?qhcz ?qhiz ?qhzz ?_ ?qhsz; (case qhlz => exact News.get (by k_asm) (by k_mem)); (case qhcz => assumption); (case qhiz => omega); (case qhzz => assumption); (case qhsz => exact rfl)) | (refine' sub_listC (off := 1) ?qhlz ?qhcz ?qhiz ?qhzz ?_ ?qhsz; (case qhlz => exact News.get (by k_asm) (by k_mem)); (case qhcz => assumption); (case qhiz => omega); (case qhzz => assumption); (case qhsz => exact rfl))); (try dsimp only)) | ((with_reducible show wpAny _ _ (call (Value.builtin "str.join") _) _ _ _); show Hold _) | (with_reducible refine wpAny_While ?_) | (k_unfold; (try dsimp only)) | walk1 | (dsimp only; walk1) | fail "no step")
  k_with "goK" =>
    repeat' (first | ((with_reducible show wpAny _ _ (storeName _ _ _) _ _ _); dsimp only) | ((with_reducible show wpAny _ _ (formatField (Value.str _ _) _) _ _ _); (refine field_any (by assumption) ?_); intro _ _; (try dsimp only)) | ((with_reducible show wpAny _ _ (compareOp CmpOp.Eq (Value.int _ _) (Value.int _ _)) _ _ _); (first | (with_reducible refine eq_so (by omega) ?_) | (with_reducible refine eq_not (by omega) ?_)); (try dsimp only)) | ((with_reducible show wpAny _ _ (compareOp CmpOp.IsNot (Value.str _ _) _) _ _ _); (refine isNot_ne (by assumption) ?_)) | ((with_reducible show wpAny _ _ (compareOp CmpOp.IsNot _ _) _ _ _); (refine isNot_self (by assumption) ?_)) | ((with_reducible show wpAny _ _ (compareOp CmpOp.Is _ _) _ _ _); (refine is_self (by assumption) ?_)) | ((with_reducible show wpAny _ _ (subscriptTail _ _ (Value.ref _) (Value.int _ _)) _ _ _); (first | (refine' sub_listC (off := 0) ?qhlz ?qhcz ?qhiz ?qhzz ?_ ?qhsz; (case qhlz => exact News.get (by k_asm) (by k_mem)); (case qhcz => assumption); (case qhiz => omega); (case qhzz => assumption); (case qhsz => exact rfl)) | (refine' sub_listC (off := 1) ?qhlz ?qhcz ?qhiz ?qhzz ?_ ?qhsz; (case qhlz => exact News.get (by k_asm) (by k_mem)); (case qhcz => assumption); (case qhiz => omega); (case qhzz => assumption); (case qhsz => exact rfl))); (try dsimp only)) | ((with_reducible show wpAny _ _ (call (Value.builtin "str.join") _) _ _ _); show Hold _) | (with_reducible refine wpAny_While ?_) | ((with_reducible show wpAny _ _ (execs (_ :: _) _) _ _ _); refine hide_cons ?_; intro _ _) | ((fail_if_success (with_reducible show wpAny _ _ _ _ _ _)); refine Nx.next (by assumption) _ ?_; (try dsimp only); (try (rename Nx _ _ _ => hz'; clear hz'; rename Flow → Shared → Prop => qz'; clear qz'))) | ((fail_if_success (with_reducible show wpAny _ _ _ _ _ _)); first | (refine Nx.ret (by assumption) _ _ ?_) | (refine Nx.brk (by assumption) _ ?_) | (refine Nx.cont (by assumption) _ ?_)) | (k_unfold; (try dsimp only)) | walk1 | (dsimp only; walk1) | fail "no step")
  trivial

structure JnInv (g : Heap) (L R x l : Addr) (us : Array Value) (n : Nat) (V : Value) (z k : Nat) (ex : List (Addr × Obj)) (out : List Str) (h : Heap) (m : Str → Option Value) : Prop where
  fr : Fr g L h m
  minp : m "inp" = some (.ref l)
  mstar : m "STAR" = some V
  mres : m "res" = some (.ref R)
  madd : m "add" = some (.ref x)
  mi : ∃ ti, m "i" = some (.int (k : Int) ti)
  mn : ∃ tn, m "n" = some (.int (z : Int) tn)
  nw : ∃ rv nn, News g L h (ex ++ [(x, appObj R), (R, lstObj rv nn), (l, lstObj us n)]) ∧ StrsAre rv.toList out
theorem strsAre_push {rv : Array Value} {out : List Str} (h : StrsAre rv.toList out) (x : Str) (t : Tok) : StrsAre (rv.push (.str x t)).toList (out ++ [x]) := by
  rw [Array.toList_push]
  exact strsAre_append h (.cons x t .nil)
theorem joined_spec {w : World} {A : Around} {s : Shared} {g : Heap} {p : Program} {loose : List Str} {mg mb : Str → Option Value} {V : Value} {l : Addr} {us : Array Value} {n : Nat} {row : List (Option Str)} {Q E : Value → Shared → Prop}
    (G : Gd w p loose mg mb g) (st : g.StaysIn s.heap) (hh : A.handled = none) (hu : A.units + 400 < cLine) (hr : A.depth + 10 < recursionLimit)
    (hl : s.heap.get? l = some (lstObj us n)) (hgl : g.get? l = none) (hrow : TrRow V us.toList row) (hself : SelfSame V) (his : IsSelf V) (hlen : row.length ≤ 300) (htx : ∀ x, some x ∈ row → x.length ≤ 100)
    (htwo : ∀ k, row[k]? = some none → row[k + 1]? ≠ some none)
    (h_ : ∀ h' tk t, (∀ b o, s.heap.get? b = some o → h'.get? b = some o) → s.toks ≤ tk → Q (.str (joinedOf row) t) ⟨h', s.gens, s.drawn, tk, s.os⟩) :
    wpAny (model PR w) A (call (.ref 237) [.ref l, V]) Q E s := by
  refine wpAny_tok ?_
  refine wpAny_call ?_
  refine' enter (binds := [("inp", .ref l), ("STAR", V)]) (led := [(l, lstObj us n)]) G.K G.T st ?hl ?ho ?hcd (om_0 hr) ?hb ?hloc ?_ ?hcell ?hco ?hgen ?hk
  case hl => simp only [List.forall_mem_cons, hl, hgl, and_self, List.not_mem_nil, false_imp_iff, implies_true]
  case ho => k_is
  case hcd => k_is
  case hb => exact BindsTo.of_eq rfl
  case hloc => rfl
  case hcell => decide
  case hco => rfl
  case hgen => rfl
  case hk => rfl
  intro g' h₁ kp st' kp₁ F' N' X' T'
  have G' : Gd w p loose mg mb g' := ⟨X', T', G.B.keeps st'⟩
  have hz : us.size = row.length := by
    have e := hrow.length
    rw [Array.length_toList] at e; exact e
  have hzs : Small us.size := by rw [hz]; exact Nat.le_trans hlen (by decide)
  have hrow' : Hold (TrRow V us.toList row) := hrow
  clear hrow
  k_extra "goJ"
  rename Fr _ _ _ _ => F
  rename News _ _ _ _ => N
  rename_i R _ _ _ _ x _ _ _ _ _ _ _ _ _ _ _
  have hxR := N (x, appObj R) (by k_mem)
  have hRR := N (R, listOf #[] 0) (by k_mem)
  have hll := N (l, lstObj us n) (by k_mem)
  have N0 : News g' s.heap.objs.size _ [(x, appObj R), (R, lstObj #[] 0), (l, lstObj us n)] := fun p hp => N p (List.mem_cons_of_mem _ hp)
  refine while_HJ (I := fun c s' => ∃ h tk m k out, s' = ⟨h, s.gens, s.drawn, tk, s.os⟩ ∧ c = row.length - k ∧ k ≤ row.length ∧ JnInv g' s.heap.objs.size R x l us n V row.length k [] out h m ∧ (out ++ headT (row.drop k) = headT row ∧ restT (row.drop k) = restT row))
    (J := fun s' => ∃ h tk m k out, s' = ⟨h, s.gens, s.drawn, tk, s.os⟩ ∧ k ≤ row.length ∧ JnInv g' s.heap.objs.size R x l us n V row.length k [] out h m ∧ out ++ starsAll (row.drop k) = joinAll row ∧ (k = row.length ∨ row[k]? = some none)) ?turn ?done row.length ?h0
  case h0 => exact ⟨_, _, _, 0, [], rfl, rfl, Nat.zero_le _, ⟨F, rfl, rfl, rfl, rfl, ⟨_, rfl⟩, ⟨_, rfl⟩, ⟨#[], 0, N0, .nil⟩⟩, rfl, rfl⟩
  case turn =>
    intro c s' hI0 Qb Qj Eb hb1 hb2 hb3
    obtain ⟨h, tk, m, k, out, rfl, rfl, hk, I, ho⟩ := hI0
    have I0 := I
    obtain ⟨ti, hti⟩ := I.mi
    obtain ⟨tn, htn⟩ := I.mn
    obtain ⟨rv, nn, N1, hrv⟩ := I.nw
    simp only [List.nil_append] at N1
    have F1 := fr_knowns [("i", .int (k : Int) ti), ("n", .int (row.length : Int) tn), ("inp", .ref l), ("res", .ref R), ("add", .ref x), ("STAR", V)] I.fr (by
      simp only [List.forall_mem_cons, List.not_mem_nil, false_imp_iff, implies_true, and_true]
      exact ⟨hti, htn, I.minp, I.mres, I.madd, I.mstar⟩)
    have hrz : Small rv.size := by
      have e1 := strsAre_len hrv
      have e2 := congrArg List.length ho.1
      have e3 := restT_le row
      rw [Array.length_toList] at e1
      rw [List.length_append] at e2
      exact om_sm e1 e2 (Nat.le_trans (Nat.le_add_left _ _) (Nat.le_of_eq e3)) hlen
    have hrv' : Hold (StrsAre rv.toList out) := hrv
    have I0' : Hold (JnInv g' s.heap.objs.size R x l us n V row.length k [] out h m) := I0
    clear I I0 F N N0 hxR hRR hll hrv
    cases hc : row[k]? with
    | none =>
      have hkz : k = row.length := by
        exact Nat.le_antisymm hk (List.getElem?_eq_none_iff.mp hc)
      have hlt : ¬ k < row.length := Nat.not_lt.mpr (Nat.le_of_eq hkz.symm)
      obtain ⟨e1, e2, e3⟩ := at_end hkz ho
      k_extra "goK"
      refine hb3 _ ⟨_, _, _, k, out, rfl, hk, I0', ?_, .inl hkz⟩
      rw [e1, e2]; rfl
    | some o =>
      have hlt : k < row.length := by
        obtain ⟨q, -⟩ := List.getElem?_eq_some_iff.mp hc; exact q
      cases o with
      | none =>
        have hi0 : ItemIs us k 0 V := ⟨by rw [← Array.getElem?_toList]; exact trRow_star hrow' hc⟩
        obtain ⟨e1, e2⟩ := star_here hc ho
        k_extra "goK"
        refine hb3 _ ⟨_, _, _, k, out, rfl, hk, I0', ?_, .inr hc⟩
        rw [e1, e2]; rfl
      | some y =>
        obtain ⟨t, hy, hn⟩ := trRow_txt hrow' hc
        have hi0 : ItemIs us k 0 (.str y t) := ⟨by rw [← Array.getElem?_toList]; exact hy⟩
        clear I0'
        k_extra "goK"
        rename Fr _ _ _ _ => F
        rename News _ _ _ _ => N
        refine hb1 _ fun _ => ⟨row.length - (k + 1), om_sub1 hlt, _, _, _, k + 1, out ++ [y], rfl, rfl, hlt, ⟨F, rfl, rfl, rfl, rfl, ⟨_, int_eq (by push_cast; rfl)⟩, ⟨_, rfl⟩, ⟨_, _, N, strsAre_push hrv' y t⟩⟩, txt_step hc ho⟩
  case done =>
    rintro s' ⟨h, tk, m, k, out, rfl, hk, I, ho, hend⟩
    obtain ⟨ti, hti⟩ := I.mi
    obtain ⟨tn, htn⟩ := I.mn
    obtain ⟨rv, nn, N1, hrv⟩ := I.nw
    simp only [List.nil_append] at N1
    have F1 := fr_knowns [("i", .int (k : Int) ti), ("n", .int (row.length : Int) tn), ("inp", .ref l), ("res", .ref R), ("add", .ref x), ("STAR", V)] I.fr (by
      simp only [List.forall_mem_cons, List.not_mem_nil, false_imp_iff, implies_true, and_true]
      exact ⟨hti, htn, I.minp, I.mres, I.madd, I.mstar⟩)
    have hrv' : Hold (StrsAre rv.toList out) := hrv
    clear I F N N0 hxR hRR hll hrv
    dsimp only
    k_extra "goK"
    rename Fr _ _ _ _ => F
    rename News _ _ _ _ => N
    refine while_HJ (I := fun c s' => ∃ h tk m k out, s' = ⟨h, s.gens, s.drawn, tk, s.os⟩ ∧ c = row.length - k ∧ k ≤ row.length ∧ JnInv g' s.heap.objs.size R x l us n V row.length k [] out h m ∧ out ++ starsAll (row.drop k) = joinAll row ∧ (k = row.length ∨ row[k]? = some none))
      (J := fun s' => ∃ h tk m out, s' = ⟨h, s.gens, s.drawn, tk, s.os⟩ ∧ JnInv g' s.heap.objs.size R x l us n V row.length row.length [] out h m ∧ out = joinAll row) ?turn ?done (row.length - k) ?h0
    case h0 => exact ⟨_, _, _, k, out, rfl, rfl, hk, ⟨F, rfl, rfl, rfl, rfl, ⟨_, rfl⟩, ⟨_, rfl⟩, ⟨rv, _, N, hrv'⟩⟩, ho, hend⟩
    case turn =>
      clear F N hrv' hti htn ho hk hend
      intro c s' hI0 Qb Qj Eb hb1 hb2 hb3
      obtain ⟨h, tk, m, k, out, rfl, rfl, hk, I, ho, hend⟩ := hI0
      have I0 : Hold (JnInv g' s.heap.objs.size R x l us n V row.length k [] out h m) := I
      obtain ⟨ti, hti⟩ := I.mi
      obtain ⟨tn, htn⟩ := I.mn
      obtain ⟨rv, nn, N1, hrv⟩ := I.nw
      simp only [List.nil_append] at N1
      have F1 := fr_knowns [("i", .int (k : Int) ti), ("n", .int (row.length : Int) tn), ("inp", .ref l), ("res", .ref R), ("add", .ref x), ("STAR", V)] I.fr (by
        simp only [List.forall_mem_cons, List.not_mem_nil, false_imp_iff, implies_true, and_true]
        exact ⟨hti, htn, I.minp, I.mres, I.madd, I.mstar⟩)
      have hrz : Small rv.size := by
        have e1 := strsAre_len hrv
        have e2 := congrArg List.length ho
        have e3 := (joinAll_wt row).2
        rw [Array.length_toList] at e1
        rw [List.length_append] at e2
        exact om_sm e1 e2 e3 hlen
      have hrv' : Hold (StrsAre rv.toList out) := hrv
      clear I hrv
      by_cases hkz : k = row.length
      · subst hkz
        k_extra "goK"
        refine hb3 _ ⟨_, _, _, out, rfl, I0, ?_⟩
        rw [List.drop_length, stars_nil, List.append_nil] at ho
        exact ho
      · have hlt : k < row.length := by omega
        have hc : row[k]? = some none := hend.resolve_left hkz
        have hi0 : ItemIs us k 0 V := ⟨by rw [← Array.getElem?_toList]; exact trRow_star hrow' hc⟩
        have ed := drop_at hc
        clear I0
        by_cases hk1 : k + 1 = row.length
        · have ez : row.drop (k + 1) = [] := by rw [hk1, List.drop_length]
          have ho' : out ++ [(".*" : Str)] = joinAll row := by
            rw [← ho, ed, ez]; rfl
          k_extra "goK"
          rename Fr _ _ _ _ => F
          rename News _ _ _ _ => N
          try dsimp only
          refine hb2 _ ⟨_, _, _, out ++ [(".*" : Str)], rfl, ⟨F, rfl, rfl, rfl, rfl, ⟨_, int_eq (by push_cast; omega)⟩, ⟨_, rfl⟩, ⟨_, _, N, strsAre_push hrv' _ _⟩⟩, ho'⟩
        · have hlt1 : k + 1 < row.length := by omega
          obtain ⟨o, hc1⟩ : ∃ o, row[k + 1]? = some o := ⟨_, List.getElem?_eq_getElem hlt1⟩
          cases o with
          | none => exact absurd hc1 (htwo k hc)
          | some y =>
            obtain ⟨t, hy, hn⟩ := trRow_txt hrow' hc1
            have hi1 : ItemIs us k 1 (.str y t) := ⟨by rw [← Array.getElem?_toList]; exact hy⟩
            k_extra "goK"
            rename Fr _ _ _ _ => F
            rename News _ _ _ _ => N
            rename_i Fx _ _ _ _ _
            have htw : lenT (headT (row.drop (k + 1))) ≤ 30000 := by
              have e1 := wt_split (row.drop (k + 1))
              have e2 := wt_le (n := 300) (row.drop (k + 1)) (fun x m => htx x (List.mem_of_mem_drop m)) (by rw [List.length_drop]; exact Nat.le_trans (Nat.sub_le _ _) hlen)
              omega
            refine while_HJ (I := fun c s' => ∃ h tk m k' fl fv fn, s' = ⟨h, s.gens, s.drawn, tk, s.os⟩ ∧ c = row.length - k' ∧ k' ≤ row.length ∧ k + 1 ≤ k' ∧ m "fixed" = some (.ref Fx) ∧ StrsAre (Array.toList fv) fl ∧ JnInv g' s.heap.objs.size R x l us n V row.length k' [(Fx, lstObj fv fn)] out h m ∧ (fl ++ headT (row.drop k') = headT (row.drop (k + 1)) ∧ restT (row.drop k') = restT (row.drop (k + 1))))
              (J := fun s' => ∃ h tk m k' fl fv fn, s' = ⟨h, s.gens, s.drawn, tk, s.os⟩ ∧ k' ≤ row.length ∧ k + 1 ≤ k' ∧ m "fixed" = some (.ref Fx) ∧ StrsAre (Array.toList fv) fl ∧ JnInv g' s.heap.objs.size R x l us n V row.length k' [(Fx, lstObj fv fn)] out h m ∧ fl = headT (row.drop (k + 1)) ∧ row.drop k' = restT (row.drop (k + 1)) ∧ (k' = row.length ∨ row[k']? = some none)) ?turn3 ?done3 (row.length - (k + 1)) ?h3
            case h3 =>
              have kf : StrsAre (#[] : Array Value).toList [] := .nil
              exact ⟨_, _, _, k + 1, [], #[], 0, rfl, rfl, Nat.le_of_lt hlt1, Nat.le_refl _, rfl, kf, ⟨F, rfl, rfl, rfl, rfl, ⟨_, int_eq (by push_cast; rfl)⟩, ⟨_, rfl⟩, ⟨_, _, N, hrv'⟩⟩, rfl, rfl⟩
            case turn3 =>
              clear F N hti htn
              intro c s' hI0 Qb Qj Eb hb1 hb2 hb3
              obtain ⟨h, tk, m, k', fl, fv, fn, rfl, rfl, hk', hkk, hmf, hfv, I, hof⟩ := hI0
              have I0 : Hold (JnInv g' s.heap.objs.size R x l us n V row.length k' [(Fx, lstObj fv fn)] out h m) := I
              obtain ⟨ti, hti⟩ := I.mi
              obtain ⟨tn, htn⟩ := I.mn
              obtain ⟨rv, nn, N1, hrv⟩ := I.nw
              simp only [List.cons_append, List.nil_append] at N1
              have F1 := fr_knowns [("fixed", .ref Fx), ("i", .int (k' : Int) ti), ("n", .int (row.length : Int) tn), ("inp", .ref l), ("res", .ref R), ("add", .ref x), ("STAR", V)] I.fr (by
                simp only [List.forall_mem_cons, List.not_mem_nil, false_imp_iff, implies_true, and_true]
                exact ⟨hmf, hti, htn, I.minp, I.mres, I.madd, I.mstar⟩)
              have hfz : Small fv.size := by
                have e1 := strsAre_len hfv
                have e2 := congrArg List.length hof.1
                have e3 := restT_le (row.drop (k + 1))
                rw [Array.length_toList] at e1
                rw [List.length_append] at e2
                rw [List.length_drop] at e3
                exact om_sm e1 e2 (Nat.le_trans (Nat.le_add_left _ _) (Nat.le_of_eq e3)) (Nat.le_trans (Nat.sub_le _ _) hlen)
              have hrv' : Hold (StrsAre rv.toList out) := hrv
              have hfv' : Hold (StrsAre fv.toList fl) := hfv
              clear I hrv hfv
              cases hc' : row[k']? with
              | none =>
                have hkz' : k' = row.length := by
                  exact Nat.le_antisymm hk' (List.getElem?_eq_none_iff.mp hc')
                obtain ⟨e1, e2, e3⟩ := at_end hkz' hof
                k_extra "goK"
                exact hb3 _ ⟨_, _, _, k', fl, fv, fn, rfl, hk', hkk, hmf, hfv', I0, e1, e2, .inl hkz'⟩
              | some o =>
                have hlt' : k' < row.length := by
                  obtain ⟨q, -⟩ := List.getElem?_eq_some_iff.mp hc'; exact q
                cases o with
                | none =>
                  have hi0' : ItemIs us k' 0 V := ⟨by rw [← Array.getElem?_toList]; exact trRow_star hrow' hc'⟩
                  obtain ⟨e1, e2⟩ := star_here hc' hof
                  k_extra "goK"
                  exact hb3 _ ⟨_, _, _, k', fl, fv, fn, rfl, hk', hkk, hmf, hfv', I0, e1, e2, .inr hc'⟩
                | some y' =>
                  obtain ⟨t', hy', hn'⟩ := trRow_txt hrow' hc'
                  have hi0' : ItemIs us k' 0 (.str y' t') := ⟨by rw [← Array.getElem?_toList]; exact hy'⟩
                  clear I0 hi0 hi1 hn
                  k_extra "goK"
                  rename Fr _ _ _ _ => F
                  rename News _ _ _ _ => N
                  exact hb1 _ fun _ => ⟨row.length - (k' + 1), om_sub1 hlt', _, _, _, k' + 1, fl ++ [y'], _, _, rfl, rfl, hlt', Nat.le_succ_of_le hkk, rfl, strsAre_push hfv' y' t', ⟨F, rfl, rfl, rfl, rfl, ⟨_, int_eq (by push_cast; rfl)⟩, ⟨_, rfl⟩, ⟨_, _, N, hrv'⟩⟩, txt_step hc' hof⟩
            case done3 =>
              clear F N hti htn
              rintro s' ⟨h, tk, m, k', fl, fv, fn, rfl, hk', hkk, hmf, hfv, I, hfl, hre, hend'⟩
              obtain ⟨ti, hti⟩ := I.mi
              obtain ⟨tn, htn⟩ := I.mn
              obtain ⟨rv, nn, N1, hrv⟩ := I.nw
              simp only [List.cons_append, List.nil_append] at N1
              have F1 := fr_knowns [("fixed", .ref Fx), ("i", .int (k' : Int) ti), ("n", .int (row.length : Int) tn), ("inp", .ref l), ("res", .ref R), ("add", .ref x), ("STAR", V)] I.fr (by
                simp only [List.forall_mem_cons, List.not_mem_nil, false_imp_iff, implies_true, and_true]
                exact ⟨hmf, hti, htn, I.minp, I.mres, I.madd, I.mstar⟩)
              have hrz : Small rv.size := by
                have e1 := strsAre_len hrv
                have e2 := congrArg List.length ho
                have e3 := (joinAll_wt row).2
                rw [Array.length_toList] at e1
                rw [List.length_append] at e2
                exact om_sm e1 e2 e3 hlen
              have hrv' : Hold (StrsAre rv.toList out) := hrv
              have hfv' : Hold (StrsAre fv.toList fl) := hfv
              clear I hrv hfv hi0 hi1 hn
              dsimp only
              k_extra "goK"
              rename Fr _ _ _ _ => F
              rename News _ _ _ _ => N
              refine join_list (ys := fl) ⟨_, (N (Fx, lstObj fv fn) (by k_mem)).1, rfl, _, rfl⟩ hfv' ?ok fun t' tk' => ?_
              case ok =>
                show lenT fl + fl.length * 0 ≤ _
                rw [hfl]; omega
              have hjl : (Txt.join "" fl).length ≤ 100000 := by
                rw [join_len, hfl]; omega
              have ej : Txt.join "" (headT (row.drop (k + 1))) = Txt.join "" fl := by rw [hfl]
              generalize Txt.join "" fl = jx at *
              by_cases hkz' : k' = row.length
              · have hrn : restT (row.drop (k + 1)) = [] := by rw [← hre, hkz', List.drop_length]
                have hne : row.drop (k + 1) ≠ [] := fun q => by
                  have := congrArg List.length q
                  rw [List.length_drop, List.length_nil] at this
                  exact absurd (Nat.sub_eq_zero_iff_le.mp this) (Nat.not_le.mpr hlt1)
                have hox : ((out ++ [(".*" : Str)]) ++ [jx]) ++ starsAll (row.drop k') = joinAll row := by
                  rw [← ho, ed, stars_end hne hrn, ej, hkz', List.drop_length, stars_nil, List.append_nil, List.append_assoc]; rfl
                have hz2 : ∀ v, Small (rv.push v).size := by
                  intro v
                  have e1 := strsAre_len (show StrsAre rv.toList out from hrv')
                  have e2 := congrArg List.length hox
                  have e3 := (joinAll_wt row).2
                  rw [Array.length_toList] at e1
                  simp only [List.length_append, List.length_cons, List.length_nil] at e2
                  rw [Array.size_push]
                  exact om_sm3 e1 e2 e3 hlen
                k_extra "goK"
                refine' call_appF ?F ?N ?m ?U ?z ?_
                case F => k_asm
                case N => k_asm
                case m => k_mem
                case U => k_upd
                case z => exact Small.line (hz2 _)
                intro h' F' N'
                k_extra "goK"
                rename Fr _ _ _ _ => F
                rename News _ _ _ _ => N
                exact hb1 _ fun _ => ⟨row.length - k', om_sub hlt hkk, _, _, _, k', _, rfl, rfl, hk', ⟨F, rfl, rfl, rfl, rfl, ⟨_, rfl⟩, ⟨_, rfl⟩, ⟨_, _, fun p hp => N p (List.mem_cons_of_mem _ hp), strsAre_push (strsAre_push hrv' _ _) _ _⟩⟩, hox, hend'⟩
              · have hrn : restT (row.drop (k + 1)) ≠ [] := fun q => by
                  rw [← hre] at q
                  have := congrArg List.length q
                  rw [List.length_drop, List.length_nil] at this
                  exact hkz' (Nat.le_antisymm hk' (Nat.sub_eq_zero_iff_le.mp this))
                have hox : (out ++ [Str.empty ++ "(?>.*?" ++ jx ++ ")"]) ++ starsAll (row.drop k') = joinAll row := by
                  rw [← ho, ed, stars_more hrn, ej, hre, List.append_assoc]; rfl
                k_extra "goK"
                rename Fr _ _ _ _ => F
                rename News _ _ _ _ => N
                exact hb1 _ fun _ => ⟨row.length - k', om_sub hlt hkk, _, _, _, k', _, rfl, rfl, hk', ⟨F, rfl, rfl, rfl, rfl, ⟨_, rfl⟩, ⟨_, rfl⟩, ⟨_, _, fun p hp => N p (List.mem_cons_of_mem _ hp), strsAre_push hrv' _ _⟩⟩, hox, hend'⟩
    case done =>
      clear F N hrv' hti htn ho hk hend
      rintro s' ⟨h, tk, m, out, rfl, I, ho⟩
      obtain ⟨ti, hti⟩ := I.mi
      obtain ⟨tn, htn⟩ := I.mn
      obtain ⟨rv, nn, N1, hrv⟩ := I.nw
      simp only [List.nil_append] at N1
      have F1 := fr_knowns [("i", .int (row.length : Int) ti), ("n", .int (row.length : Int) tn), ("inp", .ref l), ("res", .ref R), ("add", .ref x), ("STAR", V)] I.fr (by
        simp only [List.forall_mem_cons, List.not_mem_nil, false_imp_iff, implies_true, and_true]
        exact ⟨hti, htn, I.minp, I.mres, I.madd, I.mstar⟩)
      have hrv' : Hold (StrsAre rv.toList out) := hrv
      clear I hrv
      dsimp only
      k_extra "goK"
      rename Fr _ _ _ _ => F
      rename News _ _ _ _ => N
      refine join_list (ys := out) ⟨_, (N (R, lstObj rv nn) (by k_mem)).1, rfl, _, rfl⟩ hrv' ?ok fun t' tk' => ?_
      case ok =>
        show lenT out + out.length * 0 ≤ _
        have e1 := (joinAll_wt row).1
        have e2 := wt_le row htx hlen
        rw [ho]; omega
      have hjl : (Txt.join "" out).length ≤ 100000 := by
        have e1 := (joinAll_wt row).1
        have e2 := wt_le row htx hlen
        rw [join_len, ho]; omega
      have ej : Txt.join "" (joinAll row) = Txt.join "" out := by rw [ho]
      generalize Txt.join "" out = jx at *
      k_extra "goK"
      rename Fr _ _ _ _ => F
      rename News _ _ _ _ => N
      have ejo : joinedOf row = Str.empty ++ "(?s:" ++ jx ++ ")\\Z" := by
        unfold joinedOf; rw [ej]
      rw [← ejo]
      refine h_ _ _ _ (fun b o e => ?_) (by assumption)
      by_cases hbl : b = l
      · rw [hbl] at e ⊢
        rw [hl] at e
        cases e
        exact (N (l, lstObj us n) (by k_mem)).1
      · exact F.keep _ _ (kp _ _ e (by simp only [List.map_cons, List.map_nil, List.mem_cons, List.not_mem_nil, or_false]; exact hbl))
end
section
theorem joined_F {w : World} {A : Around} {s : Shared} {g : Heap} {L : Addr} {m : Str → Option Value} {news : List (Addr × Obj)} {p : Program} {loose : List Str} {mg mb : Str → Option Value} {V : Value} {l : Addr} {us : Array Value} {n : Nat} {row : List (Option Str)} {Q E : Value → Shared → Prop}
    (G : Gd w p loose mg mb g) (F : Fr g L s.heap m) (N : News g L s.heap news) (hm : (l, lstObj us n) ∈ news) (hh : A.handled = none) (hu : A.units + 400 < cLine) (hr : A.depth + 10 < recursionLimit)
    (hrow : TrRow V us.toList row) (hself : SelfSame V) (his : IsSelf V) (hlen : row.length ≤ 300) (htx : ∀ x, some x ∈ row → x.length ≤ 100) (htwo : NoTwo row)
    (h_ : ∀ h' tk t, Fr g L h' m → News g L h' news → s.toks ≤ tk → Q (.str (joinedOf row) t) ⟨h', s.gens, s.drawn, tk, s.os⟩) :
    wpAny (model PR w) A (call (.ref 237) [.ref l, V]) Q E s :=
  joined_spec G F.keep hh hu hr (N _ hm).1 (N _ hm).2.2 hrow hself his hlen htx htwo fun h' tk t k lo => h_ h' tk t (fr_all F k) (news_all N k) lo
theorem mro_object : mroOf (.type "object") = pure [.type "object"] := by rw [mroOf_type]; kernel_rfl
theorem lookup_object_new : typeLookup (.type "object") "__new__" = pure (some (.builtin "object.__new__")) := by rw [typeLookup_type, builtinLookup_eq_fast]; kernel_rfl
theorem sub_object : isSubtype (.type "object") (.type "object") = pure true := by rw [isSubtype_type]; kernel_rfl
theorem called_object : TypeCalled "object" "object.__new__" "object.__init__" :=
  ⟨by decide +kernel, by decide +kernel, ⟨_, _, mro_object⟩, madeBy_type mro_object lookup_object_new (by decide +kernel), by decide +kernel, sub_object, F.slot_object_init⟩
theorem typeCall_object : checkTypeCall "object" ⟨[], []⟩ = pure () := by kernel_rfl
theorem newCall_object : checkBuiltinCall "object.__new__" ⟨[.type "object"], []⟩ = pure () := by kernel_rfl
theorem no_refuse : ((Manifest.find? "object").elim false fun x => x.mro.any fun t => (Manifest.find? t).elim false fun x => x.noNew) = false := by decide +kernel
theorem here_object : Bind.madeHere "object.__new__" (.type "object") = pure () := by kernel_rfl
theorem object_new_meets {prog : Program} {w : World} : MeetsIn prog w (Builtin.«object.__new__» ⟨[.type "object"], []⟩) (fun A R s => R (.ok (.ret (.ref s.heap.objs.size))) { s with heap := s.heap.push { cls := .type "object", data := .plain } }) :=
  .of_wp fun A R s h => by
    obtain ⟨hp, g, d, tk, os⟩ := s
    have hmade := called_object.made
    unfold Builtin.«object.__new__»
    dsimp only
    simp only [no_refuse]
    refine wpAny_bind (wpAny_of_eq (a := true) (by rfl) ?_)
    rw [if_neg (by decide), if_neg (by decide)]
    refine wpAny_bind (wpAny_of_eq (a := ()) here_object ?_)
    rw [if_neg (by decide), if_neg (by decide +kernel)]
    refine wpAny_bind (wpAny_pure ?_)
    wp_walk
    exact ⟨_, rfl, h⟩
theorem object_init_meets0 {self : Value} : Meets (Builtin.«object.__init__» ⟨[self], []⟩) (fun _ R s => R (.ok (.ret .none)) s) :=
  Meets.of_wp fun prog w A R s hs => wpAny_pure ⟨_, rfl, hs⟩
theorem call_object {prog : Program} {w : World} {A : Around} {E : Value → Shared → Prop} {s : Shared} {Q : Value → Shared → Prop}
    (h : Q (.ref s.heap.objs.size) { s with heap := s.heap.push { cls := .type "object", data := .plain } }) : wpAny (model prog w) A (call (.type "object") []) Q E s :=
  callType_meetsIn called_object typeCall_object newCall_object F.entry_object_new F.entry_object_init object_new_meets (Q₁ := fun obj s₁ => s₁.TypeIs obj "object" ∧ Q obj s₁) ⟨⟨_, Heap.get?_push_size _ rfl, rfl⟩, h⟩
    fun obj s₁ hq => ⟨hq.1, F.args_object_init_1 obj, _, object_init_meets0, rfl, hq.2⟩
theorem objectF {w : World} {A : Around} {E : Value → Shared → Prop} {s : Shared} {g : Heap} {L : Addr} {m : Str → Option Value} {news : List (Addr × Obj)} {Q : Value → Shared → Prop} (F : Fr g L s.heap m) (N : News g L s.heap news)
    (h : ∀ a h', Fr g L h' m → News g L h' ((a, { cls := .type "object", data := .plain }) :: news) → (∀ p ∈ news, @Ne Nat p.1 a) → Q (.ref a) { s with heap := h' }) : wpAny (model PR w) A (call (.type "object") []) Q E s := by
  obtain ⟨F', N', lt⟩ := pushed (o := { cls := .type "object", data := .plain }) F N rfl
  exact call_object (h _ _ F' N' lt)
example : True := by
  k_with "goX" =>
    repeat' (first | ((with_reducible show wpAny _ _ (storeName _ _ _) _ _ _); dsimp only) | ((with_reducible show wpAny _ _ (call (Value.type "object") []) _ _ _); (refine objectF (by k_asm) (by k_asm) ?_); intro _ _ _ _ zlt; ((replace zlt := allNe_of zlt); (simp only [AllNe, and_true] at zlt); (repeat ((have _ := And.left zlt); (replace zlt := And.right zlt)))); (try k_sweep)) | ((with_reducible show wpAny _ _ (call (Value.ref 230) _) _ _ _); show Hold _) | ((with_reducible show wpAny _ _ (call (Value.ref 237) _) _ _ _); show Hold _) | ((with_reducible show wpAny _ _ (execs _ _) _ _ _); ((with_reducible refine' gen_toks ?qhz ?_); (case qhz => walk_at "my_lo")); intro _ _) | (k_unfold; (try dsimp only)) | walk1 | (dsimp only; walk1) | fail "no step")
  trivial

theorem trPre_ref {a : Addr} {sign : Str} {tq : Tok} {n0 : Nat} (hp : TokPos n0) : TrPre (.ref a) sign tq n0 := ⟨hp, selfSame_ref, fun _ _ _ _ => notSame_ref, notSame_ref⟩
theorem tran_spec {w : World} {A : Around} {s : Shared} {g : Heap} {p : Program} {loose : List Str} {mg mb : Str → Option Value} {pat : Str} {tp : Tok} {ds : List Nat} {Q E : Value → Shared → Prop}
    (G : Gd w p loose mg mb g) (st : g.StaysIn s.heap) (hT : TabI 225 s.heap) (hgT : g.get? 225 = none) (hh : A.handled = none) (hu : A.units + 600 < cLine) (hr : A.depth + 14 < recursionLimit) (hB : AllBare s.gens)
    (hpat : pat = textOf ds) (hds : ∀ d ∈ ds, d < 9) (hlen : ds.length ≤ 50) (hpos : TokPos s.toks)
    (h_ : ∀ h' gs tk t, TabI 225 h' → AllBare gs → s.toks ≤ tk → (∀ b o, b ≠ 225 → s.heap.get? b = some o → h'.get? b = some o) → Q (.str (joinedOf (rowOf "." ds)) t) ⟨h', gs, s.drawn, tk, s.os⟩) :
    wpAny (model PR w) A (call (.ref 211) [.str pat tp]) Q E s := by
  obtain ⟨tb1, hP1, htr1⟩ := hT
  refine wpAny_tok ?_
  refine wpAny_call ?_
  refine' enter (binds := [("pat", .str pat tp)]) (led := [(225, tabObj tb1)]) G.K G.T st ?hl ?ho ?hcd (om_0 hr) ?hb ?hloc ?_ ?hcell ?hco ?hgen ?hk
  case hl => simp only [List.forall_mem_cons, hP1, hgT, and_self, List.not_mem_nil, false_imp_iff, implies_true]
  case ho => k_is
  case hcd => k_is
  case hb => exact BindsTo.of_eq rfl
  case hloc => rfl
  case hcell => decide
  case hco => rfl
  case hgen => rfl
  case hk => rfl
  intro g' h₁ kp st' kp₁ F' N' X' T'
  have G' : Gd w p loose mg mb g' := ⟨X', T', G.B.keeps st'⟩
  have hlo0 : TokLo s.toks s.toks := ⟨Nat.le_refl _⟩
  k_extra "goX"
  show wpAny _ _ _ _ _ _
  rename Fr _ _ _ _ => F
  rename News _ _ _ _ => N
  refine' translate_F (n0 := s.toks) G' F N ?hm htr1 ?U hh (show A.units + 3 + 400 < cLine from om_u hu (by decide)) ?r hB hpat hds hlen (trPre_ref hpos) ?lo ?_
  case hm => k_mem
  case U => intro tb'; k_upd
  case r => k_extra "my_room"
  case lo => walk_at "my_lo"
  intro h3 gs3 tk3 D3 us3 nu3 tb3 htr3 hB3 F3 N3 lt3 hr3 hlo3
  ((replace lt3 := allNe_of lt3); (simp only [AllNe, and_true] at lt3); (repeat ((have _ := And.left lt3); (replace lt3 := And.right lt3))))
  clear F N
  have hr3' : Hold (TrRow _ us3.toList (rowOf "." ds)) := hr3
  clear hr3
  k_extra "goX"
  show wpAny _ _ _ _ _ _
  rename Fr _ _ _ _ => F
  rename News _ _ _ _ => N
  refine' joined_F G' F N ?hm hh (show A.units + 3 + 400 < cLine from om_u hu (by decide)) ?r hr3' selfSame_ref isSelf_ref ?len (rowOf_short (by decide +kernel) ds [] (fun x m => (List.not_mem_nil m).elim)) (rowOf_noTwo hds) ?_
  case hm => k_mem
  case r => k_extra "my_room"
  case len => exact Nat.le_trans (rowOf_le _ _) (by omega)
  intro h4 tk4 t4 F4 N4 lo4
  have hlo4 := TokLo.up (TokLo.up ‹TokLo _ _› (by walk_at "my_le")) lo4
  clear F N lo4
  k_extra "goX"
  exact h_ _ _ _ _ ⟨tb3, (N4 (225, tabObj tb3) (by k_mem)).1, htr3⟩ hB3 hlo4.le (fun b o hb e => F4.keep _ _ (kp _ _ e (by simp only [List.map_cons, List.map_nil, List.mem_cons, List.not_mem_nil, or_false]; exact hb)))
end
section
theorem join_blank : ∀ (d : List Nat) (dss : List (List Nat)), Txt.join " " (textOf d :: dss.map textOf) = textOf (wholeD d dss) := by
  intro d dss
  refine str_eq ?_
  show (Builtin.Str.glued " " _).cps.toList = _
  rw [StrLaws.glued_eq_join, textOf_chars]
  have eb : (" " : Str) = ⟨#[32]⟩ := by decide +kernel
  have e8 : (pt 8).cps.toList = [32] := by decide +kernel
  rw [eb]
  induction dss generalizing d with
  | nil =>
    show (textOf d).cps.toList = _
    simp [wholeD, textOf_chars]
  | cons a r ih =>
    rw [List.map_cons, join_cons2, ih a, textOf_chars]
    simp [wholeD, e8]
theorem texts_sum : ∀ xs : List Int, ((xs.map fun x => textOf (digs x)).map (·.length)).sum ≤ 100 * xs.length
  | [] => Nat.le_refl _
  | x :: xs => by
    have h1 := (word_plain x).2
    have h2 := texts_sum xs
    simp only [List.map_cons, List.sum_cons, List.length_cons] at h2 ⊢
    omega
theorem digs_len (x : Int) : (digs x).length = 3 := rfl
theorem trRow_strs {tm : Tok} {vs : List Value} {row : List (Option Str)} (h : TrRow (.str "many" tm) vs row) : StrsAre vs (rowTxt row) := by
  induction h with
  | nil => exact .nil
  | star _ ih => exact .cons "many" tm ih
  | txt _ _ ih => exact .cons _ _ ih
theorem shaped_two {ns : List Str} (h : ∀ x ∈ ns, PyData.strOk x = true) : SeqAt.shaped (.list [.list (ns.map PyData.str), .list (ns.map PyData.str)]) = true := by
  have := shaped_strs ns h
  simp [SeqAt.shaped, PyData.canLay0, PyData.canLayAll0, PyData.depth, PyData.depthAll, this.1, this.2]
theorem ne_two {prog : Program} {w : World} {A : Around} {E : Value → Shared → Prop} {s : Shared} {t u a b c d : Addr} {xa xb xc xd : Array Value} {n k na nb nc nd : Nat} {ns : List Str} {Q : Value → Shared → Prop} (ht : s.heap.get? t = some (lstObj #[.ref a, .ref b] n)) (hu' : s.heap.get? u = some (lstObj #[.ref c, .ref d] k))
    (ha : s.heap.get? a = some (lstObj xa na)) (hb : s.heap.get? b = some (lstObj xb nb)) (hc : s.heap.get? c = some (lstObj xc nc)) (hd : s.heap.get? d = some (lstObj xd nd))
    (ia : StrsAre xa.toList ns) (ib : StrsAre xb.toList ns) (ic : StrsAre xc.toList ns) (id' : StrsAre xd.toList ns) (h1 : ∀ x ∈ ns, PyData.strOk x = true) (hu : A.units + 64 < cLine) (h : Q (.bool false) s) :
    wpAny (model prog w) A (compareOp .NotEq (.ref t) (.ref u)) Q E s :=
  ne_dataH (.list ht rfl rfl (.cons (.list ha rfl rfl (strs_readAll _ ia)) (.cons (.list hb rfl rfl (strs_readAll _ ib)) .nil))) (.list hu' rfl rfl (.cons (.list hc rfl rfl (strs_readAll _ ic)) (.cons (.list hd rfl rfl (strs_readAll _ id')) .nil))) (shaped_two h1) (shaped_two h1) hu (by
    have e : PyData.eqv (.list [.list (ns.map PyData.str), .list (ns.map PyData.str)]) (.list [.list (ns.map PyData.str), .list (ns.map PyData.str)]) = true := by
      have e1 := eqv_lst ns ns
      simp only [PyData.eqv, PyData.eqvAll] at e1 ⊢
      simp [e1]
    rw [e]; exact h)
theorem rowOf_all {sign : Str} {P : Str → Prop} (hp : ∀ d x, partOf sign d = some x → P x) : ∀ (ds : List Nat) (r : List (Option Str)), (∀ x, some x ∈ r → P x) → ∀ x, some x ∈ ds.foldl (addRow sign) r → P x
  | [], _, h => h
  | d :: ds, r, h => by
    refine rowOf_all hp ds _ ?_
    intro x m
    unfold addRow at m
    split at m
    · exact h x m
    · rcases List.mem_append.mp m with m | m
      · exact h x m
      · exact hp d x (List.mem_singleton.mp m).symm
theorem part_ok (d : Nat) (x : Str) (e : partOf "any" d = some x) : PyData.strOk x = true := by
  match d, e with
  | 1, e | 2, e | 3, e | 4, e | 5, e | 6, e | 7, e | 8, e => cases e; decide +kernel
theorem rowTxt_ok (ds : List Nat) : ∀ x ∈ rowTxt (rowOf "any" ds), PyData.strOk x = true := by
  intro x m
  obtain ⟨o, m', rfl⟩ := List.mem_map.mp m
  cases o with
  | none => decide +kernel
  | some y => exact rowOf_all part_ok ds [] (fun z q => (List.not_mem_nil q).elim) y m'
theorem pt_ascii : ∀ d, d < 9 → ∀ c ∈ (pt d).cps.toList, c < 127 := by decide +kernel
theorem textOf_ok (ds : List Nat) (h : ∀ d ∈ ds, d < 9) : PyData.strOk (textOf ds) = true := by
  unfold PyData.strOk
  rw [← Array.all_toList, textOf_chars, List.all_eq_true]
  intro c m
  obtain ⟨d, hd, hc⟩ := List.mem_flatMap.mp m
  have := pt_ascii d (h d hd) c hc
  simp; omega
theorem lines_ok (width : Int) (d0 : List Nat) (dss : List (List Nat)) (h : ∀ l ∈ linesD width d0 dss, ∀ x ∈ l, x < 9) : ∀ x ∈ (linesD width d0 dss).map textOf, PyData.strOk x = true := by
  intro x m
  obtain ⟨l, hl, rfl⟩ := List.mem_map.mp m
  exact textOf_ok l (h l hl)
theorem take_cons (ns : List Int) : ∃ x0 xr, (List.take 6 ns ++ [88, 301, 63, 8, 474] : List Int) = x0 :: xr ∧ (x0 :: xr).length ≤ 11 := by
  have h : (List.take 6 ns ++ [88, 301, 63, 8, 474] : List Int).length ≤ 11 := by
    rw [List.length_append, List.length_take]
    simp only [List.length_cons, List.length_nil]; omega
  cases e : (List.take 6 ns ++ [88, 301, 63, 8, 474] : List Int) with
  | nil => simp at e
  | cons a r => exact ⟨a, r, rfl, e ▸ h⟩
noncomputable def wOf (d : List Nat) : Str × List Str := (textOf d, rowTxt (rowOf "any" d))
structure DsOk (d : List Nat) : Prop where
  lt : ∀ x ∈ d, x < 9
  len : d.length ≤ 3
  plain : PlainW (textOf d)
  short : (textOf d).length ≤ 100
theorem digs_ok (x : Int) : DsOk (digs x) := ⟨fun d m => Nat.lt_succ_of_lt (digs_lt x d m), Nat.le_refl 3, (word_plain x).1, (word_plain x).2⟩
theorem words_digs (x0 : Int) (xr : List Int) : ∃ d0 dss, ((x0 :: xr).map fun x => wordOf x 3) = wOf d0 :: dss.map wOf ∧ (∀ d ∈ d0 :: dss, DsOk d) ∧ dss.length = xr.length := by
  refine ⟨digs x0, xr.map digs, ?_, ?_, by simp⟩
  · rw [List.map_cons, wordOf_is, List.map_map]
    congr 1
    exact List.map_congr_left fun x _ => wordOf_is x
  · intro d m
    rcases List.mem_cons.mp m with rfl | m
    · exact digs_ok x0
    · obtain ⟨x, _, rfl⟩ := List.mem_map.mp m
      exact digs_ok x
theorem map_fst_wOf (dss : List (List Nat)) : (dss.map wOf).map (·.1) = dss.map textOf := by
  rw [List.map_map]; rfl
theorem map_snd_wOf (dss : List (List Nat)) : (dss.map wOf).map (·.2) = dss.map fun d => rowTxt (rowOf "any" d) := by
  rw [List.map_map]; rfl
theorem texts_sumD : ∀ dss : List (List Nat), (∀ d ∈ dss, DsOk d) → ((dss.map textOf).map (·.length)).sum ≤ 100 * dss.length
  | [], _ => Nat.le_refl _
  | d :: dss, h => by
    have h1 := (h d (List.mem_cons_self ..)).short
    have h2 := texts_sumD dss fun x m => h x (List.mem_cons_of_mem _ m)
    simp only [List.map_cons, List.sum_cons, List.length_cons] at h2 ⊢
    omega
theorem join_listE {prog : Program} {w : World} {A : Around} {E : Value → Shared → Prop} {s : Shared} {x z : Str} {t : Tok} {Q : Value → Shared → Prop} {D : Addr} {items : Array Value} {n : Nat} {ys : List Str} (hl : s.heap.get? D = some (lstObj items n)) (hi : StrsAre items.toList ys) (hok : (ys.map (·.length)).sum + ys.length * x.length ≤ 16777216) (e : Txt.join x ys = z)
    (h : ∀ t' k, Q (.str z t') { s with toks := k }) : wpAny (model prog w) A (call (.builtin "str.join") [.str x t, .ref D]) Q E s :=
  join_list ⟨_, hl, rfl, _, rfl⟩ hi hok fun t' k => e ▸ h t' k
theorem ne_same {prog : Program} {w : World} {A : Around} {E : Value → Shared → Prop} {s : Shared} {a b : Addr} {xs ys : Array Value} {n k : Nat} {ns : List Str} {Q : Value → Shared → Prop} (ha : s.heap.get? a = some (lstObj xs n)) (hb : s.heap.get? b = some (lstObj ys k)) (hi : StrsAre xs.toList ns) (hj : StrsAre ys.toList ns)
    (h1 : ∀ x ∈ ns, PyData.strOk x = true) (hu : A.units + 64 < cLine) (h : Q (.bool false) s) : wpAny (model prog w) A (compareOp .NotEq (.ref a) (.ref b)) Q E s :=
  ne_strs ha hb hi hj h1 h1 hu (by simp only [decide_true, Bool.not_true]; exact h)
theorem lines_eq (width : Int) (d0 : List Nat) (dss : List (List Nat)) : linesA width (wOf d0).1 ((dss.map wOf).map (·.1)) = (linesD width d0 dss).map textOf := by
  rw [map_fst_wOf, linesA_eq]; exact linesL_text width d0 dss
theorem lines_eqL (width : Int) (d0 : List Nat) (dss : List (List Nat)) : linesL width (wOf d0).1 ((dss.map wOf).map (·.1)) = (linesD width d0 dss).map textOf := by
  rw [map_fst_wOf]; exact linesL_text width d0 dss
theorem parts_eq (d0 : List Nat) (dss : List (List Nat)) : partsL (wOf d0).2 ((dss.map wOf).map (·.2)) = rowTxt (rowOf "any" (wholeD d0 dss)) := by
  rw [map_snd_wOf]; exact partsL_row d0 dss
theorem words_plain {d0 : List Nat} {dss : List (List Nat)} (h : ∀ d ∈ d0 :: dss, DsOk d) : ∀ q ∈ wOf d0 :: dss.map wOf, PlainW q.1 ∧ q.1.length ≤ 100 := by
  intro q m
  have m' : q ∈ (d0 :: dss).map wOf := m
  obtain ⟨d, hd, rfl⟩ := List.mem_map.mp m'
  exact ⟨(h d hd).plain, (h d hd).short⟩
theorem words_rows {d0 : List Nat} {dss : List (List Nat)} (h : ∀ d ∈ d0 :: dss, DsOk d) : ∀ q ∈ wOf d0 :: dss.map wOf, q.2.length ≤ 3 := by
  intro q m
  have m' : q ∈ (d0 :: dss).map wOf := m
  obtain ⟨d, hd, rfl⟩ := List.mem_map.mp m'
  show (rowTxt (rowOf "any" d)).length ≤ 3
  unfold rowTxt
  rw [List.length_map]
  exact Nat.le_trans (rowOf_le _ _) (h d hd).len
theorem whole_lt {d0 : List Nat} {dss : List (List Nat)} (h : ∀ d ∈ d0 :: dss, DsOk d) : ∀ x ∈ wholeD d0 dss, x < 9 := by
  intro x m
  rcases List.mem_append.mp m with m | m
  · exact (h d0 (List.mem_cons_self ..)).lt x m
  · obtain ⟨d, hd, m⟩ := List.mem_flatMap.mp m
    rcases List.mem_cons.mp m with rfl | m
    · decide
    · exact (h d (List.mem_cons_of_mem _ hd)).lt x m
theorem whole_len {d0 : List Nat} {dss : List (List Nat)} (h : ∀ d ∈ d0 :: dss, DsOk d) (hn : dss.length ≤ 10) : (wholeD d0 dss).length ≤ 50 := by
  have := wholeD_len d0 dss (h d0 (List.mem_cons_self ..)).len fun d m => (h d (List.mem_cons_of_mem _ m)).len
  omega
theorem lines_okD {width : Int} {d0 : List Nat} {dss : List (List Nat)} (h : ∀ d ∈ d0 :: dss, DsOk d) (hn : dss.length ≤ 10) : (∀ l ∈ linesD width d0 dss, (∀ x ∈ l, x < 9) ∧ l.length ≤ 50) ∧ (linesD width d0 dss).length ≤ 50 :=
  linesD_ok (fun d m => ⟨(h d m).lt, (h d m).len⟩) (by omega)
end
section
theorem comp_words {w : World} {A : Around} {E : Value → Shared → Prop} {s : Shared} {env : Env} {g : Heap} {m : Str → Option Value} {a b y : Str} {pa pb pe tp py : Pos} {kk : Nat} {scope : Scope} {cl : List (Str × Addr)} {pos : Pos} {Q : Value → Shared → Prop} {wl : Addr} {vs : Array Value} {n : Nat} {ws : List (Str × List Str)}
    (hh : A.handled = none) (F : Fr g env.locals s.heap m) (hy : m y = some (.ref wl)) (hwl : s.heap.get? wl = some (lstObj vs n)) (hW : Words s.heap vs.toList ws) (hsz : vs.size ≤ sizeLine)
    (hk0 : env.scope.kind = .function) (hly : env.kindOf y = some .local) (hdy : (y == ("__debug__" : Str)) = false) (hda : (a == ("__debug__" : Str)) = false)
    (hclos : closureFor scope env = pure cl) (hcell : ∀ z ∈ scope.names, z.2 ≠ .cell) (hkind : scope.kind = .function)
    (hnames : ∀ z ∈ scope.names, z.2 = .local → scope.names.lookup z.1 = some .local) (hxa : scope.names.lookup a = some .local) (hxb : scope.names.lookup b = some .local) (hab : ¬ a = b)
    (hs : ∀ x, foldedSetIterable (.Name y py) env x = pure x)
    (h : ∀ D h' tk ys, s.heap.get? D = none → h'.get? D = some (LCg.lst ys) → StrsAre ys (ws.map (·.1)) → (∀ b o, s.heap.get? b = some o → h'.get? b = some o) → Q (.ref D) { s with heap := h', toks := tk }) :
    wpAny (model PR w) A (eval (.ListComp (.Name a pe) [⟨.Tuple [.Name a pa, .Name b pb] kk tp, .Name y py, [], 0⟩] scope pos) env) Q E s := by
  rw [eval_ListComp]
  refine wpAny_comprehension_free (use := none) rfl hs hclos hkind hnames (wpAny_Name (wpAny_loadName_local hk0 hly F.ns hy ?_) hdy)
  refine wpAny_pyIter_list ⟨_, hwl, rfl, _, rfl⟩ ?_
  have hLlt := F.ns.lt
  have hwlt := Heap.lt_size hwl
  generalize hI : s.heap.objs.size = I at *
  have hs1 : ∀ b o, s.heap.get? b = some o → (s.heap.push { cls := .type "list_iterator", data := .fields #[.ref wl, .int 0 0] }).get? b = some o := fun b o e => Heap.get?_push_of_some _ e
  have hit0 : (s.heap.push { cls := .type "list_iterator", data := .fields #[.ref wl, .int 0 0] }).IsListIter I wl 0 := ⟨_, hI ▸ Heap.get?_push_size _ rfl, rfl, rfl⟩
  have hz1 : (s.heap.push { cls := .type "list_iterator", data := .fields #[.ref wl, .int 0 0] }).objs.size = I + 1 := by rw [Heap.size_push, hI]
  generalize s.heap.push { cls := .type "list_iterator", data := .fields #[.ref wl, .int 0 0] } = h1 at *
  refine wpAny_newObj_type (wpAny_newFunctionEnv hcell (by intro y hy; simp at hy) (fun h₂ hns₂ hsb₂ => ?_) hkind)
  dsimp only at hns₂ hsb₂ ⊢
  have hDC : @Ne Nat h1.objs.size (h1.push { cls := .type "list", data := Data.seq #[] }).objs.size := by rw [Heap.size_push]; exact Nat.ne_of_lt (Nat.lt_succ_self _)
  have k2 : ∀ b o, h1.get? b = some o → h₂.get? b = some o := fun b o e => hsb₂.extBut b o (by rw [Heap.size_push]; exact Nat.ne_of_lt (Nat.lt_succ_of_lt (Heap.lt_size e))) (Heap.get?_push_of_some _ (Heap.get?_push_of_some _ e))
  have hD : h₂.get? h1.objs.size = some (LCg.lst []) := hsb₂.extBut _ _ hDC (Heap.get?_push_of_some _ (Heap.get?_push_size _ rfl))
  have hpz : (h1.push { cls := .type "list", data := Data.seq #[] }).objs.size = h1.objs.size + 1 := Heap.size_push ..
  have hCI : @Ne Nat (h1.push { cls := .type "list", data := Data.seq #[] }).objs.size I := by rw [Heap.size_push, hz1]; omega
  have hDI : @Ne Nat h1.objs.size I := by rw [hz1]; omega
  have fC : s.heap.get? (h1.push { cls := .type "list", data := Data.seq #[] }).objs.size = none := by
    cases q : s.heap.get? (h1.push { cls := .type "list", data := Data.seq #[] }).objs.size with
    | none => rfl
    | some o =>
      have h9 : @LT.lt Nat _ (h1.push { cls := .type "list", data := Data.seq #[] }).objs.size s.heap.objs.size := Heap.lt_size q
      rw [hI] at h9
      omega
  have fD : s.heap.get? h1.objs.size = none := by
    cases q : s.heap.get? h1.objs.size with
    | none => rfl
    | some o =>
      have h9 : @LT.lt Nat _ h1.objs.size s.heap.objs.size := Heap.lt_size q
      rw [hI] at h9
      omega
  have fI : s.heap.get? I = none := by
    cases q : s.heap.get? I with
    | none => rfl
    | some o =>
      have h9 : @LT.lt Nat _ I s.heap.objs.size := Heap.lt_size q
      rw [hI] at h9
      omega
  generalize hCC : (h1.push { cls := .type "list", data := Data.seq #[] }).objs.size = C at *
  generalize hDD : h1.objs.size = D at *
  have hwI : @Ne Nat wl I := Nat.ne_of_lt hwlt
  have hvl : vs.toList.length = ws.length := hW.length
  have loop : ∀ s₃ : Shared, s₃ = { s with heap := h₂, toks := s.toks + ([] : List (Str × Value)).length } →
      codeAny (model PR w) A (.compLoop (.ListComp (.Name a pe) [⟨.Tuple [.Name a pa, .Name b pb] kk tp, .Name y py, [], 0⟩] scope pos) 0 (.ref I) (.ref D) (compEnvC scope cl C env)) (compPost (model PR w) A E none Q (.ref D) C) s₃ := by
    rintro s₃ rfl
    refine kcp_loop (fun k s' => ∃ h' tk i ys m', s' = { s with heap := h', toks := tk } ∧ i ≤ vs.size ∧ k = vs.size - i ∧ h'.IsListIter I wl i ∧ h'.Ns C m' ∧ h'.get? D = some (LCg.lst ys) ∧ ys.length = i ∧ StrsAre ys ((ws.take i).map (·.1)) ∧ (∀ b o, s.heap.get? b = some o → h'.get? b = some o)) ?_ vs.size
      ⟨h₂, _, 0, [], _, rfl, Nat.zero_le _, rfl, hit0.at fun o e => k2 _ _ e, hns₂, hD, rfl, .nil, fun b o e => k2 _ _ (hs1 _ _ e)⟩
    rintro k s' ⟨h', tk, i, ys, m', rfl, hi, rfl, hit, hn', hD', hyl, hys, k'⟩
    have hl : h'.IsList wl vs := ⟨_, k' _ _ hwl, rfl, _, rfl⟩
    by_cases hlt : i < vs.size
    · have hx : vs[i]? = some vs[i] := by simp [hlt]
      obtain ⟨T, r, t, tt, rs, nr, row, hv, hwi, hT, -, -⟩ := hW.at (show vs.toList[i]? = some vs[i] by rw [Array.getElem?_toList]; exact hx)
      rw [hv] at hx
      refine wpAny_pyNext_list_item hit hl hx fun h3 hit3 sb => ?_
      have k3 : ∀ c o, @Ne Nat c I → h'.get? c = some o → h3.get? c = some o := fun c o hc e => (sb.2 c hc).trans e
      dsimp only
      refine letGo_listiter hit3 ?_
      have nTI : @Ne Nat T I := fun q => by rw [q, fI] at hT; cases hT
      refine pair_store (env := compEnvC scope cl C env) hh (k3 _ _ nTI (k' _ _ hT)) (hn'.at' fun o e => k3 _ _ hCI e) (lookup_relabel_local hxa) (lookup_relabel_local hxb) (by simp [compEnvC, relabel, hkind]) fun h4 tk4 hn4 k4 => ?_
      refine wpAny_Name (wpAny_loadName_local (by simp [compEnvC, relabel, hkind]) (lookup_relabel_local hxa) hn4 (by rw [if_neg hab, if_pos rfl]) ?_) hda
      have k4' : ∀ c o, @Ne Nat c C → h3.get? c = some o → h4.get? c = some o := fun c o hc e => k4 c o hc e
      have hD4 : h4.get? D = some (LCg.lst ys) := k4' _ _ hDC (k3 _ _ hDI hD')
      refine append_at (hsz := by show ys.toArray.size ≤ sizeLine; rw [List.size_toArray, hyl]; exact Nat.le_trans hi hsz) hD4 fun h5 hs5 hD5 => ?_
      have hit4 : h4.IsListIter I wl (i + 1) := hit3.at fun o e => k4' _ o hCI.symm e
      refine ⟨vs.size - (i + 1), by omega, h5, tk4, i + 1, ys ++ [.str t tt], _, rfl, hlt, rfl, hit4.at fun o e => hs5.extBut _ o hDI.symm e, hn4.sameBut hs5 hDC.symm, hD5.trans (congrArg some (LCg.lst_snoc ys _)), by rw [List.length_append, hyl]; rfl, ?_, fun c o e => ?_⟩
      · rw [List.take_add_one, hwi, List.map_append]
        exact strsAre_append hys (.cons _ _ .nil)
      · have n1 : @Ne Nat c I := fun q => by rw [q, fI] at e; cases e
        have n2 : @Ne Nat c C := fun q => by rw [q, fC] at e; cases e
        have n3 : @Ne Nat c D := fun q => by rw [q, fD] at e; cases e
        exact hs5.extBut _ _ n3 (k4' _ _ n2 (k3 _ _ n1 (k' _ _ e)))
    · have hx : vs[i]? = none := by simp; omega
      have hie : i = vs.size := by omega
      subst hie
      refine wpAny_pyNext_list_end hh hit hl hx fun h3 sb => ?_
      dsimp only
      have k3 : ∀ c o, @Ne Nat c I → h'.get? c = some o → h3.get? c = some o := fun c o hc e => sb c o hc e
      refine ⟨m', hn'.at' fun o e => k3 _ _ hCI e, fun h'' hs'' => ?_⟩
      have et : ws.take vs.size = ws := by rw [← Array.length_toList, hvl, List.take_length]
      rw [et] at hys
      refine h D h'' _ ys fD (hs''.extBut _ _ hDC (k3 _ _ hDI hD')) hys fun c o e => ?_
      have n1 : @Ne Nat c I := fun q => by rw [q, fI] at e; cases e
      have n2 : @Ne Nat c C := fun q => by rw [q, fC] at e; cases e
      exact hs''.extBut _ _ n2 (k3 _ _ n1 (k' _ _ e))
  exact codeAny_compStart_list (loop _ rfl) ((Walks.list hh I wl hwI vs).self 0 _ _ _ ⟨hit0.at fun o e => k2 _ _ e, ⟨_, k2 _ _ (hs1 _ _ hwl), rfl, _, rfl⟩⟩ (loop _ rfl))
end
section
inductive WIn (nw : List (Addr × Obj)) : List Value → List (Str × List Str) → Prop
  | nil : WIn nw [] []
  | cons {T r : Addr} {t : Str} {tt : Tok} {rs : Array Value} {n : Nat} {row : List Str} {vs : List Value} {ws : List (Str × List Str)} : (T, tupObj [.str t tt, .ref r]) ∈ nw → (r, lstObj rs n) ∈ nw → StrsAre rs.toList row → WIn nw vs ws → WIn nw (.ref T :: vs) ((t, row) :: ws)
theorem WIn.mono {nw nw' : List (Addr × Obj)} {vs : List Value} {ws : List (Str × List Str)} (x : WIn nw vs ws) (k : ∀ q ∈ nw, q ∈ nw') : WIn nw' vs ws := by
  induction x with
  | nil => exact .nil
  | cons a b c _ ih => exact .cons (k _ a) (k _ b) c ih
theorem WIn.append {nw : List (Addr × Obj)} {vs vs' : List Value} {ws ws' : List (Str × List Str)} (x : WIn nw vs ws) (y : WIn nw vs' ws') : WIn nw (vs ++ vs') (ws ++ ws') := by
  induction x with
  | nil => exact y
  | cons a b c _ ih => exact .cons a b c ih
theorem WIn.words {nw : List (Addr × Obj)} {h : Heap} {vs : List Value} {ws : List (Str × List Str)} (x : WIn nw vs ws) (k : ∀ q ∈ nw, h.get? q.1 = some q.2) : Words h vs ws := by
  induction x with
  | nil => exact .nil
  | cons a b c _ ih => exact .cons (k _ a) (k _ b) c ih
noncomputable def NT (o : Obj) : Prop := ∀ tb, o ≠ tabObj tb
theorem nt_list {its : Array Value} {n : Nat} : NT (lstObj its n) := fun tb q => by
  have := congrArg Obj.cls q
  cases this
theorem nt_cell {o : Obj} {v : Option Value} (e : o.data = .cell v) : NT o := fun tb q => by
  rw [q] at e; cases e
theorem law_step {g h h' : Heap} {L : Addr} {m : Str → Option Value} {rest : List (Addr × Obj)} {a b c : Array Value} (F : Fr g L h m) (N : News g L h ((157, tabObj a) :: (164, tabObj b) :: (225, tabObj c) :: rest)) (hr : ∀ q ∈ rest, NT q.2)
    (k : ∀ x o, x ≠ 157 → x ≠ 164 → x ≠ 225 → h.get? x = some o → h'.get? x = some o) (t1 : TabI 157 h') (t2 : TabI 164 h') (t3 : TabI 225 h') :
    ∃ a' b' c', TriplesOk (Array.toList a') ∧ TriplesOk (Array.toList b') ∧ TriplesOk (Array.toList c') ∧ Fr g L h' m ∧ News g L h' ((157, tabObj a') :: (164, tabObj b') :: (225, tabObj c') :: rest) := by
  have z1 := N _ (List.Mem.head _)
  have z2 := N _ (List.Mem.tail _ (List.Mem.head _))
  have z3 := N _ (List.Mem.tail _ (List.Mem.tail _ (List.Mem.head _)))
  obtain ⟨a', p1, q1⟩ := t1
  obtain ⟨b', p2, q2⟩ := t2
  obtain ⟨c', p3, q3⟩ := t3
  refine ⟨a', b', c', q1, q2, q3, ⟨F.ns.at' fun o e => k _ o (Ne.symm z1.2.1) (Ne.symm z2.2.1) (Ne.symm z3.2.1) e, fun x o e => k x o (fun q => by rw [q, z1.2.2] at e; cases e) (fun q => by rw [q, z2.2.2] at e; cases e) (fun q => by rw [q, z3.2.2] at e; cases e) (F.keep x o e), F.above⟩, ?_⟩
  intro q hq
  rcases List.mem_cons.mp hq with rfl | hq
  · exact ⟨p1, z1.2⟩
  rcases List.mem_cons.mp hq with rfl | hq
  · exact ⟨p2, z2.2⟩
  rcases List.mem_cons.mp hq with rfl | hq
  · exact ⟨p3, z3.2⟩
  have z := N q (.tail _ (.tail _ (.tail _ hq)))
  refine ⟨k _ _ (fun e => ?_) (fun e => ?_) (fun e => ?_) z.1, z.2⟩
  · have w := z.1; rw [e, z1.1] at w; exact hr q hq a (Option.some.inj w).symm
  · have w := z.1; rw [e, z2.1] at w; exact hr q hq b (Option.some.inj w).symm
  · have w := z.1; rw [e, z3.1] at w; exact hr q hq c (Option.some.inj w).symm
theorem tab_keep {P : Addr} {h h' : Heap} (t : TabI P h) (k : ∀ o, h.get? P = some o → h'.get? P = some o) : TabI P h' := let ⟨tb, a, b⟩ := t; ⟨tb, k _ a, b⟩
theorem law_post {M : Model} {A : Around} {cd : Code} {s s₁ : Shared} {cw : ClaimW} {cl : Str → Option Addr} {mean : ExcName → Option Value} {args : List WData} {tabs : List (Addr × Addr)} {d : WData} (hT : TabsAt tabs s₁.heap)
    (hc : ∀ cls, cw.raises args cls = false) (hp : cw.post args d args = true) (hr : ∀ h, ReadsW cw.records cl h (.bool true) d [])
    (h : codeAny M A cd (fun r s' => r = .ok (.ret (.bool true)) ∧ (∀ b o, (ghostOf s₁.heap tabs).get? b = some o → s'.heap.get? b = some o) ∧ GrownAll tabs s'.heap ∧ s'.os = s₁.os ∧ AllBare s'.gens) s) : codeAny M A cd (GoodWG cw cl mean args s₁) s :=
  codeAny_mono h fun r s' ⟨hv, hk, hgr, hos, hg⟩ => by
    have keep : ∀ b o, b ∉ tabs.map (·.2) → s₁.heap.get? b = some o → s'.heap.get? b = some o := fun b o hb e => hk b o (ghost_ne e hb)
    have grown : ∀ b o, b ∈ tabs.map (·.2) → s₁.heap.get? b = some o → isCodeTable s₁.heap b ∧ o = tabObj #[] ∧ ∃ ps, s'.heap.get? b = some (tabObj ps) := fun b o hb e => by
      obtain ⟨q, hq, rfl⟩ := List.mem_map.mp hb
      have e2 := (hT q hq).2
      rw [e] at e2
      exact ⟨((hT q hq).1.tab (hT q hq).2).isCodeTable, Option.some.inj e2, hgr.get q hq⟩
    subst hv
    refine ⟨.inl ⟨_, d, [], rfl, hc, hr _, hp, fun _ => ⟨List.nodup_nil, fun a ha => (List.not_mem_nil ha).elim⟩⟩, ⟨fun b o e => ?_, fun b o e => ?_⟩, hos, hg⟩
    · by_cases hb : b ∈ tabs.map (·.2)
      · obtain ⟨ht, rfl, ps, hP⟩ := grown b o hb e
        exact .inr (.inl ⟨ht, rfl, #[], ps, rfl, by rw [Array.empty_append]; exact hP⟩)
      · exact .inl (keep b o hb e)
    · by_cases hb : b ∈ tabs.map (·.2)
      · obtain ⟨_, _, ps, hP⟩ := grown b o hb e
        exact ⟨_, hP⟩
      · exact ⟨o, keep b o hb e⟩
theorem enter_law {prog : Program} {w : World} {A : Around} {R : Result → Shared → Prop} {s : Shared} {name : Str} {params : Arguments} {body : List Stmt} {scope : Scope} {pm cd doc : Value} {a : Addr} {o : Obj} {args : List Value} {x : Str} {v : Value}
    (hroom : A.depth < recursionLimit) (ho : s.heap.get? a = some o) (hdata : o.data = .func (Calls.docDef name params body scope pm cd doc)) (hlim : s.heap.NoLimit) (hcd : s.heap.CodeRec cd name)
    (hbind : bindArgs (Calls.docDef name params body scope pm cd doc) ⟨args, []⟩ = pure [(x, v)]) (hx : scope.names.lookup x = some .local)
    (h : ∀ h₁ tk, 0 < tk → Fr s.heap s.heap.objs.size h₁ (fun y => if y = x then some v else none) → Cl s.heap.objs.size (cellsFrom (s.heap.objs.size + 1) scope.names []) h₁ (fun _ => none) →
      wpAny (model prog w) (A.deeper (envOfC name scope s.heap.objs.size a cd)) (execs body (envOfC name scope s.heap.objs.size a cd))
        (fun f s' => R (.ok (.ret (match f with | .ret v => v | _ => .none))) s') (fun _ _ => False) { s with heap := h₁, toks := tk })
    (hco : scope.isCoroutine = false := by rfl) (hgen : scope.isGenerator = false := by rfl) (hk : scope.kind = .function := by rfl) :
    codeAny (model prog w) A (.call (.ref a) ⟨args, []⟩) R s := by
  refine codeAny_call_function hroom ho hdata hco hgen rfl hcd ?_
  rw [hbind]
  refine wpAny_pure ?_
  show wpAny _ _ (newFunctionEnv scope mainGlobals [] [(x, v)] (name ++ ".<locals>.") (some a) cd none builtinsNs) _ _ _
  simp only [newFunctionEnv, Option.isSome_none, Bool.false_eq_true, if_false]
  refine wpAny_bind (wpAny_alloc ?_)
  refine wpAny_bind (wpAny_layCells _ (fun name kind cells => by cases hkc : kind == NameKind.cell <;> simp [hkc]) _ _ _ _ ?_)
  have ok := cellsFrom_ok scope.names (s.heap.push { cls := .type "frame", data := .dict #[] }) (s.heap.objs.size + 1) [] ⟨fun _ _ hm => (nomatch hm), List.Pairwise.nil⟩ (by rw [Heap.size_push]; exact Nat.le_refl _)
  rw [Heap.size_push] at ok
  rw [show ({ s with heap := s.heap.push { cls := .type "frame", data := .dict #[] } } : Shared).heap.objs.size = s.heap.objs.size + 1 from Heap.size_push ..]
  rw [List.forIn_cons]
  have hns : (pushCells (s.heap.push { cls := .type "frame", data := .dict #[] }) scope.names).Ns s.heap.objs.size fun _ => none := (Heap.Ns.new s.heap (.type "frame")).keeps (pushCells_keeps _ _)
  have hkp : ∀ b o, s.heap.get? b = some o → (pushCells (s.heap.push { cls := .type "frame", data := .dict #[] }) scope.names).get? b = some o := fun b o e => pushCells_keeps _ _ b o (Heap.get?_push_of_some _ e)
  refine wpAny_bind (wpAny_bind (wpAny_bind (wpAny_storeName_local (env := newEnv scope s.heap.objs.size mainGlobals (cellsFrom (s.heap.objs.size + 1) scope.names []) (name ++ ".<locals>.") (some a) cd none builtinsNs) hx hns (fun h' hn' hs' => ?_) (by
    show (scope.kind == .class || (scope.kind == .module && _)) = false
    rw [hk]; rfl))))
  refine wpAny_pure ?_
  dsimp only
  rw [List.forIn_nil]
  refine wpAny_pure (wpAny_pure ?_)
  have hlt : ∀ b o, s.heap.get? b = some o → @Ne Nat b s.heap.objs.size := fun b o e => Nat.ne_of_lt (Heap.lt_size e)
  refine ⟨hlim.keeps fun b o e => hs'.extBut b o (hlt b o e) (hkp b o e), codeAny_func ?_⟩
  refine wpAny_mono (h h' _ (Nat.succ_pos _) ⟨hn', fun b o e => hs'.extBut b o (hlt b o e) (hkp b o e), Nat.le_refl _⟩ ⟨fun n c hc => ?_, ok.apart, fun n c hm => (ok.empty n c hm).2⟩) (fun _ _ e => e) fun _ _ e => e.elim
  exact ((ok.empty n c (mem_of_lookup hc)).1).sameBut hs' (Nat.ne_of_gt ((ok.empty n c (mem_of_lookup hc)).2))
theorem comp_rest_ind {prog : Program} {w : World} {A : Around} {h₀ : Heap} {L : Addr} {m : Str → Option Value} {env : Env} {elt : Expr} {x : Str} {scope : Scope} {cl : List (Str × Addr)} {s : Shared} {S : List (Addr × Obj) → Prop} {P : Nat → Value → Prop} {Fin : List Value → List (Addr × Obj) → Prop} (Inv : Nat → List Value → List (Addr × Obj) → Prop) (n : Nat)
    (turn : ∀ i ys news, i < n → Inv i ys news → ∀ v I oI C oC D m₂ h tk (E' : Value → Shared → Prop), P i v → LCg.NsObj oC m₂ → m₂ x = some v → Fr h₀ L h m → News h₀ L h ((I, oI) :: (C, oC) :: (D, LCg.lst ys) :: news) → LCg.Off3 I C D news → ((@Ne Nat I C) ∧ (@Ne Nat I D) ∧ (@Ne Nat C D)) →
      wpAny (model prog w) A (eval elt (compEnvC scope cl C env)) (LCg.CompEnd h₀ L m { s with heap := h, toks := tk } I oI C oC D (LCg.lst ys) S (fun y news' => Inv (i + 1) (ys ++ [y]) news')) E' { s with heap := h, toks := tk })
    (done : ∀ ys news, Inv n ys news → Fin ys news) : ∀ k i ys news, i + k = n → Inv i ys news → LCg.CompRest prog w A h₀ L m env elt x scope cl s S P Fin k i ys news
  | 0, i, ys, news, e, hI => LCg.CompRest.zero (done ys news (by
    have e' : i = n := by omega
    rw [← e']; exact hI))
  | k + 1, i, ys, news, e, hI => LCg.CompRest.succ fun v I oI C oC D m₂ h tk E' a1 a2 a3 a4 a5 a6 a7 => by
    refine wpAny_mono (turn i ys news (by omega) hI v I oI C oC D m₂ h tk E' a1 a2 a3 a4 a5 a6 a7) (fun y s' q => ?_) fun _ _ q => q
    obtain ⟨h', tk', news', b1, b2, b3, b4, b5, b6⟩ := q
    exact ⟨h', tk', news', b1, b2, b3, b4, b5, comp_rest_ind Inv n turn done k (i + 1) _ news' (by omega) b6⟩
theorem ints_len {vs : List Value} {ns : List Int} (h : IntsAre vs ns) : vs.length = ns.length := by
  induction h with
  | nil => rfl
  | cons _ _ _ ih => simp [ih]
theorem nt_tup {its : List Value} : NT (tupObj its) := fun tb q => by
  have := congrArg Obj.cls q
  cases this
theorem news_new2 {g h h' : Heap} {L a b : Addr} {oa ob : Obj} {m : Str → Option Value} {news : List (Addr × Obj)} (F : Fr g L h m) (N : News g L h news) (qa : h.get? a = none) (qb : h.get? b = none) (ea : h'.get? a = some oa) (eb : h'.get? b = some ob) (k : ∀ b x, h.get? b = some x → h'.get? b = some x) : News g L h' ((a, oa) :: (b, ob) :: news) := by
  have fr : ∀ c, h.get? c = none → c ≠ L ∧ g.get? c = none := fun c q => by
    obtain ⟨o', es, ep, eL, _⟩ := F.ns
    refine ⟨fun r => ?_, ?_⟩
    · rw [r, eL] at q; cases q
    · cases r : g.get? c with
      | none => rfl
      | some y => rw [F.keep _ _ r] at q; cases q
  intro p hp
  rcases List.mem_cons.mp hp with rfl | hp
  · exact ⟨ea, fr _ qa⟩
  rcases List.mem_cons.mp hp with rfl | hp
  · exact ⟨eb, fr _ qb⟩
  · exact ⟨k _ _ (N p hp).1, (N p hp).2⟩
theorem elt_rule {M : Model} {A : Around} {E : Value → Shared → Prop} {s : Shared} {env : Env} {p1 p2 p3 p4 : Pos} {f x y : Str} {Q : Value → Shared → Prop} {fa c : Addr} {o : Obj} {fd : FuncData} {X V : Value} {mg m₂ : Str → Option Value}
    (hk : env.scope.kind = .function) (h1 : env.kindOf f = some .globalImplicit) (hg : s.heap.Ns env.globals mg) (hv1 : mg f = some (.ref fa)) (ho : s.heap.get? fa = some o) (hd : o.data = .func fd)
    (h2 : env.kindOf x = some .local) (hn : s.heap.Ns env.locals m₂) (hx : m₂ x = some X) (h3 : env.kindOf y = some .cell) (hc : env.cells.lookup y = some c) (hcl : s.heap.IsCell c (some V))
    (d1 : (f == ("__debug__" : Str)) = false) (d2 : (x == ("__debug__" : Str)) = false) (d3 : (y == ("__debug__" : Str)) = false)
    (h : wpAny M A (call (.ref fa) [X, V]) Q E s) : wpAny M A (eval (.Call (.Name f p1) [.Name x p2, .Name y p3] [] p4) env) Q E s := by
  refine Call_ (Calls.Name_function_global hk h1 (Calls.loadGlobal_global hg hv1 ?_) d1)
  refine callWith_def_at ho hd (spliced_more (wpAny_Name (wpAny_loadName_local hk h2 hn hx ?_) d2))
  refine spliced_more (wpAny_Name (wpAny_loadName_cell hk h3 hc hcl ?_) d3)
  exact spliced_none ⟨ho, h⟩
theorem ints_at {ws : List Value} {xs : List Int} (h : IntsAre ws xs) {i : Nat} {v : Value} (e : ws.toArray[i]? = some v) : ∃ x t, v = .int x t ∧ xs[i]? = some x := by
  rw [List.getElem?_toArray] at e
  exact h.at i v e
structure LawAt (g h : Heap) (L : Addr) (m : Str → Option Value) (rest : List (Addr × Obj)) (a b c : Array Value) : Prop where
  fr : Fr g L h m
  nw : News g L h ((157, tabObj a) :: (164, tabObj b) :: (225, tabObj c) :: rest)
  nt : ∀ q ∈ rest, NT q.2
  t1 : TriplesOk a.toList
  t2 : TriplesOk b.toList
  t3 : TriplesOk c.toList
theorem LawAt.tab1 {g h : Heap} {L : Addr} {m : Str → Option Value} {rest : List (Addr × Obj)} {a b c : Array Value} (x : LawAt g h L m rest a b c) : TabI 157 h := ⟨a, (x.nw _ (.head _)).1, x.t1⟩
theorem LawAt.tab2 {g h : Heap} {L : Addr} {m : Str → Option Value} {rest : List (Addr × Obj)} {a b c : Array Value} (x : LawAt g h L m rest a b c) : TabI 164 h := ⟨b, (x.nw _ (.tail _ (.head _))).1, x.t2⟩
theorem LawAt.tab3 {g h : Heap} {L : Addr} {m : Str → Option Value} {rest : List (Addr × Obj)} {a b c : Array Value} (x : LawAt g h L m rest a b c) : TabI 225 h := ⟨c, (x.nw _ (.tail _ (.tail _ (.head _)))).1, x.t3⟩
theorem LawAt.n1 {g h : Heap} {L : Addr} {m : Str → Option Value} {rest : List (Addr × Obj)} {a b c : Array Value} (x : LawAt g h L m rest a b c) : g.get? 157 = none := (x.nw _ (.head _)).2.2
theorem LawAt.n2 {g h : Heap} {L : Addr} {m : Str → Option Value} {rest : List (Addr × Obj)} {a b c : Array Value} (x : LawAt g h L m rest a b c) : g.get? 164 = none := (x.nw _ (.tail _ (.head _))).2.2
theorem LawAt.n3 {g h : Heap} {L : Addr} {m : Str → Option Value} {rest : List (Addr × Obj)} {a b c : Array Value} (x : LawAt g h L m rest a b c) : g.get? 225 = none := (x.nw _ (.tail _ (.tail _ (.head _)))).2.2
theorem LawAt.step {g h h' : Heap} {L : Addr} {m : Str → Option Value} {rest : List (Addr × Obj)} {a b c : Array Value} {D : Addr} {oD : Obj} (x : LawAt g h L m rest a b c)
    (k : ∀ x o, x ≠ 157 → x ≠ 164 → x ≠ 225 → h.get? x = some o → h'.get? x = some o) (t1 : TabI 157 h') (t2 : TabI 164 h') (t3 : TabI 225 h') (fD : h.get? D = none) (eD : h'.get? D = some oD) (hD : NT oD) :
    ∃ a' b' c', LawAt g h' L m ((D, oD) :: rest) a' b' c' := by
  have q := law_step x.fr x.nw x.nt k t1 t2 t3
  obtain ⟨a', q⟩ := q
  obtain ⟨b', q⟩ := q
  obtain ⟨c', q⟩ := q
  obtain ⟨p1, p2, p3, F', N'⟩ := q
  refine ⟨a', b', c', F', ?_, ?_, p1, p2, p3⟩
  · have fresh : D ≠ L ∧ g.get? D = none := by
      obtain ⟨o', es, ep, eL, _⟩ := x.fr.ns
      refine ⟨fun r => ?_, ?_⟩
      · rw [r, eL] at fD; cases fD
      · cases r : g.get? D with
        | none => rfl
        | some y => rw [x.fr.keep _ _ r] at fD; cases fD
    intro q hq
    rcases List.mem_cons.mp hq with rfl | hq
    · exact N' _ (.head _)
    rcases List.mem_cons.mp hq with rfl | hq
    · exact N' _ (.tail _ (.head _))
    rcases List.mem_cons.mp hq with rfl | hq
    · exact N' _ (.tail _ (.tail _ (.head _)))
    rcases List.mem_cons.mp hq with rfl | hq
    · exact ⟨eD, fresh⟩
    · exact N' _ (.tail _ (.tail _ (.tail _ hq)))
  · intro q hq
    rcases List.mem_cons.mp hq with rfl | hq
    · exact hD
    · exact x.nt q hq
theorem LawAt.all {g h h' : Heap} {L : Addr} {m : Str → Option Value} {rest : List (Addr × Obj)} {a b c : Array Value} {D : Addr} {oD : Obj} (x : LawAt g h L m rest a b c)
    (k : ∀ b o, h.get? b = some o → h'.get? b = some o) (fD : h.get? D = none) (eD : h'.get? D = some oD) (hD : NT oD) : ∃ a' b' c', LawAt g h' L m ((D, oD) :: rest) a' b' c' :=
  x.step (fun y o _ _ _ e => k y o e) (tab_keep x.tab1 fun o e => k _ o e) (tab_keep x.tab2 fun o e => k _ o e) (tab_keep x.tab3 fun o e => k _ o e) fD eD hD
theorem LawAt.p225 {g h h' : Heap} {L : Addr} {m : Str → Option Value} {rest : List (Addr × Obj)} {a b c : Array Value} {D : Addr} {oD : Obj} (x : LawAt g h L m rest a b c)
    (k : ∀ b o, b ≠ 225 → h.get? b = some o → h'.get? b = some o) (t3 : TabI 225 h') (fD : h.get? D = none) (eD : h'.get? D = some oD) (hD : NT oD) : ∃ a' b' c', LawAt g h' L m ((D, oD) :: rest) a' b' c' :=
  x.step (fun y o _ _ n e => k y o n e) (tab_keep x.tab1 fun o e => k _ o (by decide) e) (tab_keep x.tab2 fun o e => k _ o (by decide) e) t3 fD eD hD
theorem LawAt.p12 {g h h' : Heap} {L : Addr} {m : Str → Option Value} {rest : List (Addr × Obj)} {a b c : Array Value} {D : Addr} {oD : Obj} (x : LawAt g h L m rest a b c)
    (k : ∀ b o, b ≠ 157 → b ≠ 164 → h.get? b = some o → h'.get? b = some o) (t1 : TabI 157 h') (t2 : TabI 164 h') (fD : h.get? D = none) (eD : h'.get? D = some oD) (hD : NT oD) : ∃ a' b' c', LawAt g h' L m ((D, oD) :: rest) a' b' c' :=
  x.step (fun y o n1 n2 _ e => k y o n1 n2 e) t1 t2 (tab_keep x.tab3 fun o e => k _ o (by decide) (by decide) e) fD eD hD
theorem news_swap {g h : Heap} {L : Addr} {x t1 t2 t3 : Addr × Obj} {rest : List (Addr × Obj)} (N : News g L h (x :: t1 :: t2 :: t3 :: rest)) : News g L h (t1 :: t2 :: t3 :: x :: rest) := by
  intro q hq
  rcases List.mem_cons.mp hq with rfl | hq
  · exact N _ (.tail _ (.head _))
  rcases List.mem_cons.mp hq with rfl | hq
  · exact N _ (.tail _ (.tail _ (.head _)))
  rcases List.mem_cons.mp hq with rfl | hq
  · exact N _ (.tail _ (.tail _ (.tail _ (.head _))))
  rcases List.mem_cons.mp hq with rfl | hq
  · exact N _ (.head _)
  · exact N _ (.tail _ (.tail _ (.tail _ (.tail _ hq))))
theorem nt_cons {x : Addr × Obj} {rest : List (Addr × Obj)} (h : NT x.2) (k : ∀ q ∈ rest, NT q.2) : ∀ q ∈ x :: rest, NT q.2 := by
  intro q hq
  rcases List.mem_cons.mp hq with rfl | hq
  · exact h
  · exact k q hq
theorem LawAt.keep {g h h' : Heap} {L : Addr} {m : Str → Option Value} {rest : List (Addr × Obj)} {a b c : Array Value} (x : LawAt g h L m rest a b c) (k : ∀ b o, h.get? b = some o → h'.get? b = some o) : LawAt g h' L m rest a b c :=
  ⟨fr_all x.fr k, news_all x.nw k, x.nt, x.t1, x.t2, x.t3⟩
theorem LawAt.p225_0 {g h h' : Heap} {L : Addr} {m : Str → Option Value} {rest : List (Addr × Obj)} {a b c : Array Value} (x : LawAt g h L m rest a b c)
    (k : ∀ b o, b ≠ 225 → h.get? b = some o → h'.get? b = some o) (t3 : TabI 225 h') : ∃ a' b' c', LawAt g h' L m rest a' b' c' := by
  have q := law_step x.fr x.nw x.nt (fun y o _ _ n e => k y o n e) (tab_keep x.tab1 fun o e => k _ o (by decide) e) (tab_keep x.tab2 fun o e => k _ o (by decide) e) t3
  obtain ⟨a', q⟩ := q
  obtain ⟨b', q⟩ := q
  obtain ⟨c', q⟩ := q
  exact ⟨a', b', c', q.2.2.2.1, q.2.2.2.2, x.nt, q.1, q.2.1, q.2.2.1⟩
end
example : True := by
  k_with_none
  trivial
example : True := by
  k_with "go" =>
    repeat' (first | (k_unfold; (try dsimp only)) | walk1 | (dsimp only; walk1) | fail "no step")
  trivial

example : True := by
  k_with "getMethod ref" =>
    (k_here; k_dflt (refine' method_sub ?qk1z ?qk2z ?qk3z ?qk4z ?qk5z ?qk6z ?qk7z ?qk8z ?_; (case qk1z => k_asm); (case qk2z => k_asm); (case qk3z => k_inst); (case qk4z => k_is); (case qk5z => k_is); (case qk6z => k_is); (case qk7z => kernel_rfl); (case qk8z => k_get); k_whole))
  k_with "getAttr ref" =>
    (k_here; k_dflt (refine' get_sub ?qk1z ?qk2z ?qk3z ?qk4z ?qk5z ?qk6z ?qk7z ?qk8z ?qk9z ?qk10z ?qk11z ?_; (case qk1z => k_asm); (case qk2z => k_asm); (case qk3z => k_inst); (case qk4z => k_is); (case qk5z => k_is); (case qk6z => k_is); (case qk7z => k_is); (case qk8z => k_is); (case qk9z => k_is); (case qk10z => k_get); (case qk11z => k_handed); k_whole))
  k_with "subscriptTail Name Slice ref ref" =>
    (k_here; (with_reducible show wpAny _ _ (subscriptTail _ (PySem.Expr.Slice _ _ none _) (Value.ref _) (Value.ref _)) _ _ _); k_dflt
      (refine' slice_accF ?qFz ?qXz ?qNz ?qmz ?qp1z ?qp2z ?_ ?qzz ?qsz; (case qFz => k_asm); (case qXz => k_asm); (case qNz => k_asm); (case qmz => k_mem); (case qp1z => first | exact .int _ _ | exact .none); (case qp2z => first | exact .int _ _ | exact .none); (case qzz => first | exact Nat.le_trans (by assumption) (by decide) | omega); (case qsz => exact rfl); k_whole); intro _ _ _ _ zlt; k_lt zlt; (try (revert zlt; intro _)); (try k_sweep))
  k_with "setItem ref ref" =>
    (k_here; k_dflt
      (refine' store_accF ?qFz ?qXz ?qNz ?qp1z ?qaz ?qmz ?qUz ?_ ?qzz ?qsz; (case qFz => k_asm); (case qXz => k_asm); (case qNz => k_asm); (case qp1z => first | exact .inl (.int _ _) | exact .inr ⟨.none, rfl⟩); (case qmz => k_mem); (case qUz => k_upd); (case qaz => omega); (case qzz => first | exact Nat.le_trans (by assumption) (by decide) | omega); (case qsz => first | omega | (simp; omega) | simp); k_whole); intro _ _ _; (try k_sweep))
  k_with "setAttr ref" =>
    (k_here; k_dflt
      (refine' set_sub ?qk1z ?qk2z ?qk3z ?qk4z ?qk5z ?qk6z ?qk7z ?qkoz ?qk8z ?qk9z ?qk10z ?qk11z ?qk12z ?qk13z ?_; (case qk1z => k_asm); (case qk2z => k_asm); (case qk3z => k_asm); (case qk4z => k_inst); (case qk5z => exact rfl); (case qk6z => k_is); (case qk7z => k_is); (case qkoz => exact rfl); (case qk8z => k_is); (case qk9z => exact rfl); (case qk10z => k_get); (case qk11z => exact put_acc); (case qk12z => k_upd); (case qk13z => exact Nat.le_of_ble_eq_true rfl); k_whole; intro _ _ _; (try k_sweep)))
  trivial
section
theorem trPre_str {tm tq : Tok} {n0 : Nat} {sign : Str} (h0 : 0 < tm) (h1 : TokLo (tm + 1) n0) (h2 : TokLo (tm + 1) tq) (hs : sign ≠ "many") : TrPre (.str "many" tm) sign tq n0 := by
  have l1 := h1.le
  have l2 : tm + 1 ≤ tq := h2.le
  have z : tm ≠ 0 := Nat.ne_of_gt h0
  refine ⟨Nat.lt_of_lt_of_le (Nat.succ_pos _) l1, selfSame_str z, fun x t hx ht => ?_, ?_⟩
  · have l3 : tm + 1 ≤ t := Nat.le_trans l1 ht
    exact notSame_str hx (Nat.ne_of_gt l3) (Nat.ne_of_gt (Nat.lt_of_lt_of_le (Nat.succ_pos _) l3)) z
  · exact notSame_str hs (Nat.ne_of_gt l2) (Nat.ne_of_gt (Nat.lt_of_lt_of_le (Nat.succ_pos _) l2)) z
example : True := by
  k_with "goL0" =>
    repeat' (first
      | ((with_reducible show wpAny _ _ (exec (PySem.Stmt.Assign _ (PySem.Expr.ListComp _ _ _ _) _) _) _ _ _); show Hold _)
      | (k_unfold; (try dsimp only)) | walk1 | (dsimp only; walk1) | fail "no step")
  k_with "goL" =>
    repeat' (first
      | ((with_reducible show wpAny _ _ (storeName _ _ _) _ _ _); dsimp only) | ((with_reducible show wpAny _ _ (execs _ _) _ _ _); dsimp only)
      | ((with_reducible show wpAny _ _ (execs _ _) _ _ _); ((with_reducible refine' gen_toks ?qhz ?_); (case qhz => walk_at "my_lo")); intro _ _)
      | ((with_reducible show wpAny _ _ (call (Value.builtin "sum") _) _ _ _); refine wpAny_tok ?_; walk1; intro zhle; (have zhlo1 := TokLo.up (TokLo.up ‹TokLo _ _› (by walk_at "my_le")) zhle); (clear zhle); (revert zhlo1; intro _))
      | ((with_reducible show wpAny _ _ (call (Value.builtin "len") _) _ _ _); refine wpAny_tok ?_; walk1; intro zhle; (have zhlo1 := TokLo.up (TokLo.up ‹TokLo _ _› (by walk_at "my_le")) zhle); (clear zhle); (revert zhlo1; intro _))
      | ((with_reducible show wpAny _ _ (exec (PySem.Stmt.Assign _ (PySem.Expr.ListComp _ _ _ _) _) _) _ _ _); show Hold _)
      | ((with_reducible show wpAny _ _ (eval (PySem.Expr.ListComp _ _ _ _) _) _ _ _); show Hold _)
      | ((with_reducible show LCg.CompSrc _ _ _ _ _ _ _ _ _ _ _ _ _ _); show Hold _)
      | ((with_reducible show wpAny _ _ (call (Value.ref 244) _) _ _ _); show Hold _)
      | ((with_reducible show wpAny _ _ (call (Value.ref 251) _) _ _ _); show Hold _)
      | ((with_reducible show wpAny _ _ (call (Value.ref 258) _) _ _ _); show Hold _)
      | ((with_reducible show wpAny _ _ (call (Value.ref 265) _) _ _ _); show Hold _)
      | ((with_reducible show wpAny _ _ (call (Value.ref 272) _) _ _ _); show Hold _)
      | ((with_reducible show wpAny _ _ (call (Value.ref 230) _) _ _ _); show Hold _)
      | ((with_reducible show wpAny _ _ (call (Value.ref 237) _) _ _ _); show Hold _)
      | ((with_reducible show wpAny _ _ (call (Value.ref 211) _) _ _ _); show Hold _)
      | ((with_reducible show wpAny _ _ (call (Value.builtin "str.join") _) _ _ _); show Hold _)
      | ((with_reducible show wpAny _ _ (compareOp CmpOp.NotEq (Value.ref _) (Value.ref _)) _ _ _); show Hold _)
      | (k_unfold; (try dsimp only)) | walk1 | (dsimp only; walk1) | fail "no step")
  trivial

theorem law_holds : PySem.Challenge.rw_in0026_02.Holds := hdw (by
  w_strict (
    (k_fill
     intro w s₀ s₁ mg mb G Y fa o pm cd doc dV kV ho hd' hcd hD hmg hg args vals as hpre hlay hrd hwl hlo
     have KX := km_in_of Y
     have hT8 := km_tabs_of Y
     have X := (Ground.X G).1
     have V := (Ground.X G).2
     refine Ground.open G ?_
     intro T B D TE TW
     try (refine guard_noD D (by decide +kernel) ?_; clear D)
     have hT9 : TabsAt ([(161, 157), (168, 164), (229, 225)] : List (Addr × Addr)) s₁.heap := by
       simp only [TabsAt, List.forall_mem_cons, List.not_mem_nil, false_imp_iff, implies_true, and_true] at hT8 ⊢
       exact ⟨⟨codeHd_of_K (c := 161) (P := 157) KX (by kernel_rfl), hT8.1⟩, ⟨codeHd_of_K (c := 168) (P := 164) KX (by kernel_rfl), hT8.2.1⟩, ⟨codeHd_of_K (c := 229) (P := 225) KX (by kernel_rfl), hT8.2.2⟩⟩
     clear hmg
     wrow_args hpre hlay hrd hwl hlo
     (all_goals (
       first | refine callC_kw (enter_call ?_) | refine enter_call ?_
       w_top on
       refine law_post (d := ofPy (.bool true)) hT9 (raisesW_false (by wrow_none_raised)) (by with_unfolding_all rfl) (fun h => readsW_of_reads (.bool true)) ?_
       have he := Dflts.none hD rfl
       subst he
       have he := Dflts.noKw hD
       subst he
       refine enter_law (by decide) ho (fd_plain hd') (Top.nolimit T) hcd rfl rfl fun h₁ tk₁ hpos F X0 => ?_
       obtain ⟨oc, hoc, dc⟩ := X0.cell (Str.ofString "star") (s₁.heap.objs.size + 1) rfl
       have N : News s₁.heap s₁.heap.objs.size h₁ [(s₁.heap.objs.size + 1, oc)] := fun p hp => by
         cases List.mem_singleton.mp hp
         exact ⟨hoc, Nat.succ_ne_self _, Heap.get?_none_of_le (Nat.le_succ _)⟩
       clear hd' X0 hoc
       kn_ghosts F T
       k_drop
       skip))))
  clear hcd ho hD TE TW T B X V hT8 Y G
  rename Top _ _ _ _ _ _ => T'
  rename Frag.In _ _ => X'
  rename Heap.IsList _ _ _ => hL
  rename IntsAre _ _ => hI
  rename ¬ (63 : Int) < _ => h63
  have G' : Gd w _ _ mg mb _ := ⟨X', topRead_of T', T'.bmain⟩
  have hh : ∀ e, (callerA.deeper e).handled = none := fun _ => rfl
  generalize hgg : ghostOf s₁.heap [(161, 157), (168, 164), (229, 225)] = g at *
  refine hide_Q fun Q' E' hQ' => ?_
  k_extra "goL0"
  show wpAny _ _ _ _ _ _
  rename Fr _ _ _ _ => F
  rename News _ _ _ _ => N
  rename_i o1 d0
  refine wpAny_tok ?_
  have hlo1 : TokLo (tk₁ + 1) (tk₁ + 1) := ⟨Nat.le_refl _⟩
  refine LCg.Assign_ListComp_U (F₀ := F) rfl (by with_unfolding_all rfl) (by with_unfolding_all rfl) (by decide) rfl (by decide) rfl rfl rfl ?_
  k_extra "goL"
  show LCg.CompSrc _ _ _ _ _ _ _ _ _ _ _ _ _ _
  rename Fr _ _ _ _ => F
  rename News _ _ _ _ => N
  rename IntsAre _ (_ ++ _) => hI2
  rename_i D ws h2 l1
  rename List Int => ns
  have N2 : News g s₁.heap.objs.size h2 [(D, lstObj ws.toArray 0), (s₁.heap.objs.size + 1, o1), (157, tabObj #[]), (164, tabObj #[]), (225, tabObj #[])] := by
    intro p hp
    simp only [List.mem_cons, List.not_mem_nil, or_false] at hp
    rcases hp with rfl | rfl | rfl | rfl | rfl
    · exact N _ (by k_mem)
    · exact N _ (by k_mem)
    · exact N _ (by k_mem)
    · exact N _ (by k_mem)
    · exact N _ (by k_mem)
  clear N l1
  have hwl := ints_len hI2
  have hz6 : ws.toArray.size ≤ 11 := by
    rw [List.size_toArray, hwl, List.length_append, List.length_take]
    simp only [List.length_cons, List.length_nil]; omega
  refine LCg.CompSrc.ledger (hh _) F N2 (by k_mem) (Nat.le_trans hz6 (by rw [sizeLine_eq]; decide)) fun g9 => ?_
  refine comp_rest_ind (Inv := fun i ys news => ∃ nw, news = (D, lstObj ws.toArray 0) :: (s₁.heap.objs.size + 1, o1) :: (157, tabObj #[]) :: (164, tabObj #[]) :: (225, tabObj #[]) :: nw ∧ WIn nw ys (((List.take 6 ns ++ [88, 301, 63, 8, 474]).take i).map fun x => wordOf x 3) ∧ ∀ q ∈ nw, NT q.2) ws.toArray.size ?turn ?done _ 0 [] _ (Nat.zero_add _) ⟨[], rfl, .nil, fun q hq => (List.not_mem_nil hq).elim⟩
  case turn =>
    clear F N2 hL hI h63
    rintro i ys news hi ⟨nw, rfl, hw, hnt⟩ v I oI C oC Dc m₂ h tk E' hv hoC hx F N off ne
    have hv' : ws.toArray[i]? = some v := hv
    have hq0 := ints_at hI2 hv'
    clear hv
    obtain ⟨x, hq1⟩ := hq0
    obtain ⟨t, hq2⟩ := hq1
    have hv2 := hq2.1
    have hxs := hq2.2
    have hx' := hx.trans (congrArg some hv2)
    refine elt_rule (fa := 244) (c := s₁.heap.objs.size + 1) (mg := mg) rfl rfl (G'.T.g.keeps F.keep) (mg_of X' G'.T.g (by kernel_rfl)) ((X'.keeps F.keep) _ _ (by k_is)) rfl rfl (hoC.ns (N (C, oC) (by k_mem)).1) hx' rfl rfl ⟨o1, (N (s₁.heap.objs.size + 1, o1) (by k_mem)).1, d0⟩ (by decide) (by decide) (by decide) ?_
    refine word_spec (s := ⟨h, s₁.gens, s₁.drawn, tk, s₁.os⟩) G' F.keep (hh _) (show callerA.units + 3 + 200 < cLine by decide) (by k_room) (.of_eq hg) fun h' tk' T tt R rv n fT fR eT eR hS k => ?_
    show LCg.CompEnd _ _ _ _ _ _ _ _ _ _ _ _ _ _
    refine LCg.CompEnd.intro (all := _ :: _ :: _ :: _ :: _ :: _ :: _ :: _ :: _ :: _ :: nw) (fr_all F k) (news_new2 F N fT fR eT eR k) ((D, lstObj ws.toArray 0) :: (s₁.heap.objs.size + 1, o1) :: (157, tabObj #[]) :: (164, tabObj #[]) :: (225, tabObj #[]) :: (T, tupObj [.str (wordOf x 3).1 tt, .ref R]) :: (R, lstObj rv n) :: nw) ?sub ?off (.inr ⟨_, .head _, rfl, _, rfl⟩) ⟨(T, tupObj [.str (wordOf x 3).1 tt, .ref R]) :: (R, lstObj rv n) :: nw, rfl, ?wi, ?nt⟩
    case sub =>
      intro p hp
      simp only [List.mem_cons] at hp ⊢
      rcases hp with q | q | q | q | q | q | q | q | q | q | q
      all_goals simp [q]
    case off =>
      refine LCg.Off3.of fun p hp => ?_
      have old := off.mem
      have nI : ∀ a, h.get? a = none → a ≠ I ∧ a ≠ C ∧ a ≠ Dc := fun a q => ⟨fun e => (by rw [e, (N (I, oI) (by k_mem)).1] at q; cases q), fun e => (by rw [e, (N (C, oC) (by k_mem)).1] at q; cases q), fun e => (by rw [e, (N (Dc, LCg.lst ys) (by k_mem)).1] at q; cases q)⟩
      simp only [List.mem_cons] at hp
      rcases hp with rfl | rfl | rfl | rfl | rfl | rfl | rfl | q
      · exact old _ (by k_mem)
      · exact old _ (by k_mem)
      · exact old _ (by k_mem)
      · exact old _ (by k_mem)
      · exact old _ (by k_mem)
      · exact nI _ fT
      · exact nI _ fR
      · exact old _ (by simp [q])
    case wi =>
      rw [List.take_add_one, hxs, List.map_append]
      exact (hw.mono fun q hq => .tail _ (.tail _ hq)).append (.cons (.head _) (.tail _ (.head _)) hS .nil)
    case nt =>
      intro q hq
      rcases List.mem_cons.mp hq with rfl | hq
      · exact nt_tup
      rcases List.mem_cons.mp hq with rfl | hq
      · exact nt_list
      · exact hnt q hq
  case done =>
    rintro ys news ⟨nw, rfl, hw, hnt⟩ Dw h3 tk3 F N -
    have exs : (List.take 6 ns ++ [88, 301, 63, 8, 474]).take ws.toArray.size = List.take 6 ns ++ [88, 301, 63, 8, 474] := by
      rw [List.size_toArray, hwl, List.take_length]
    rw [exs] at hw
    have N1 : News g s₁.heap.objs.size h3 ((157, tabObj #[]) :: (164, tabObj #[]) :: (225, tabObj #[]) :: (Dw, lstObj ys.toArray ys.length) :: (s₁.heap.objs.size + 1, o1) :: nw) := by
      intro p hp
      simp only [List.mem_cons] at hp
      rcases hp with q | q | q | q | q | q
      · exact q ▸ N _ (by k_mem)
      · exact q ▸ N _ (by k_mem)
      · exact q ▸ N _ (by k_mem)
      · exact q ▸ N _ (by k_mem)
      · exact q ▸ N _ (by k_mem)
      · exact N _ (by simp [q])
    have hrest : ∀ q ∈ ((Dw, lstObj ys.toArray ys.length) :: (s₁.heap.objs.size + 1, o1) :: nw), NT q.2 := by
      intro q hq
      rcases List.mem_cons.mp hq with rfl | hq
      · exact nt_list
      rcases List.mem_cons.mp hq with rfl | hq
      · exact nt_cell d0
      · exact hnt q hq
    have hq0 := take_cons ns
    obtain ⟨x0, hq1⟩ := hq0
    obtain ⟨xr, hq2⟩ := hq1
    have hx0 := hq2.1
    have hxl := hq2.2
    clear hq2
    rw [hx0] at hw
    have hq3 := words_digs x0 xr
    obtain ⟨d0, hq4⟩ := hq3
    obtain ⟨dss, hq5⟩ := hq4
    rw [hq5.1] at hw
    have hds := hq5.2.1
    have hdl : dss.length ≤ 10 := by
      rw [hq5.2.2]
      rw [List.length_cons] at hxl; omega
    clear hq5 hx0 hxl
    have hW : Words h3 ys (wOf d0 :: dss.map wOf) := hw.words fun q hq => (N1 q (.tail _ (.tail _ (.tail _ (.tail _ (.tail _ hq)))))).1
    have hys : ys.toArray.size ≤ 11 := by
      rw [List.size_toArray, hW.length, List.length_cons, List.length_map]; omega
    clear hwl hz6 exs N2 N hI2
    intro hle
    have hlo3 : TokLo (tk₁ + 1) tk3 := ⟨hle⟩
    clear hle
    dsimp only
    k_extra "goL"
    show wpAny _ _ _ _ _ _
    rename Fr _ _ _ _ => F
    rename News _ _ _ _ => N
    refine wpAny_tok ?_
    refine' comp_words (wl := Dw) (vs := ys.toArray) (n := ys.length) ?c1 ?c2 ?c3 ?c4 ?c5 ?c6 ?c7 ?c8 ?c9 ?c10 ?c11 ?c12 ?c13 ?c14 ?c15 ?c16 ?c17 ?c18 ?c19
    case c2 => exact F
    case c1 => exact hh _
    case c3 => exact rfl
    case c4 => exact (N (Dw, lstObj ys.toArray ys.length) (by k_mem)).1
    case c5 => exact hW
    case c6 => exact Nat.le_trans hys (by rw [sizeLine_eq]; decide)
    case c7 => exact rfl
    case c8 => exact rfl
    case c9 => decide
    case c10 => decide
    case c11 => with_unfolding_all rfl
    case c12 => decide
    case c13 => exact rfl
    case c14 => decide
    case c15 => exact rfl
    case c16 => exact rfl
    case c17 => decide
    case c18 => exact fun _ => rfl
    intro D2 h4 tk4 ts fD2 eD2 hts k4
    have F4 := fr_all F k4
    have N4 := news_new F N fD2 eD2 k4
    have hW4 := hW.keeps k4
    clear F N k4 eD2 fD2 hW
    intro hle
    have hlo4 := TokLo.up (TokLo.up ‹TokLo _ _› (by walk_at "my_le")) hle
    clear hle
    k_extra "goL"
    show wpAny _ _ _ _ _ _
    rename Fr _ _ _ _ => F
    rename News _ _ _ _ => N
    refine wpAny_tok ?_
    refine' join_listE (ys := textOf d0 :: dss.map textOf) (z := textOf (wholeD d0 dss)) ?j1 ?j2 ?j3 ?j4 ?_
    case j1 => exact (N (D2, LCg.lst ts) (by k_mem)).1
    case j2 =>
      rw [List.map_cons, map_fst_wOf] at hts
      exact hts
    case j3 =>
      have e1 := texts_sumD (d0 :: dss) hds
      have e2 : (Str.ofString " ").length = 1 := rfl
      have e3 : (textOf d0 :: dss.map textOf).length = dss.length + 1 := by rw [List.length_cons, List.length_map]
      rw [e3, e2]
      rw [List.length_cons] at e1
      refine Nat.le_trans (Nat.add_le_add_right e1 _) ?_
      omega
    case j4 => exact join_blank d0 dss
    intro t' tk' hle
    have hlo5 := TokLo.up (TokLo.up ‹TokLo _ _› (by walk_at "my_le")) hle
    clear hle
    have N5 : News g s₁.heap.objs.size _ ((157, tabObj #[]) :: (164, tabObj #[]) :: (225, tabObj #[]) :: (Dw, lstObj ys.toArray ys.length) :: (s₁.heap.objs.size + 1, o1) :: nw) := fun p hp => N p (.tail _ hp)
    clear N
    k_extra "goL"
    show wpAny _ _ _ _ _ _
    rename Fr _ _ _ _ => F
    rename News _ _ _ _ => N
    have Z0 : LawAt g _ s₁.heap.objs.size _ ((Dw, lstObj ys.toArray ys.length) :: (s₁.heap.objs.size + 1, o1) :: nw) #[] #[] #[] := ⟨F, fun p hp => N p (.tail _ hp), hrest, trivial, trivial, trivial⟩
    clear F N
    refine wpAny_tok ?_
    refine' folded_spec (wl := Dw) (vs := ys.toArray) (n := ys.length) (w₀ := wOf d0) (ws := dss.map wOf) G' ?a1 ?a2 ?a3 ?a4 ?a5 ?a6 ?a7 ?a8 ?a9 ?a10 ?a11 ?a12 ?a13 ?_
    case a1 => exact Z0.fr.keep
    case a2 => exact (Z0.nw (Dw, lstObj ys.toArray ys.length) (by k_mem)).1
    case a3 => exact hw.words fun q hq => (Z0.nw q (.tail _ (.tail _ (.tail _ (.tail _ (.tail _ hq)))))).1
    case a4 => exact Z0.tab1
    case a5 => exact Z0.n1
    case a6 => exact Z0.tab2
    case a7 => exact Z0.n2
    case a8 => exact hh _
    case a9 => exact (show callerA.units + 3 + 400 < cLine by decide)
    case a10 => k_room
    case a11 => exact .of_eq hg
    case a12 => rw [List.length_map]; omega
    case a13 => exact words_plain hds
    intro h6 gs6 tk6 D6 us6 nu6 fD6 eD6 hS6 t61 t62 hB6 k6 hle
    have hlo6 := TokLo.up (TokLo.up ‹TokLo _ _› (by walk_at "my_le")) hle
    clear hle
    rw [lines_eq] at hS6
    have q6 := Z0.p12 k6 t61 t62 fD6 eD6 nt_list
    clear Z0 k6 t61 t62 fD6 eD6
    obtain ⟨a6, q6⟩ := q6
    obtain ⟨b6, q6⟩ := q6
    obtain ⟨c6, Z6⟩ := q6
    have F6 := Z6.fr
    have N6 := Z6.nw
    k_extra "goL"
    show wpAny _ _ _ _ _ _
    rename Fr _ _ _ _ => F
    rename News _ _ _ _ => N
    have Z := LawAt.mk F N Z6.nt Z6.t1 Z6.t2 Z6.t3
    clear F N Z6
    refine wpAny_tok ?_
    refine' lines_spec (wl := Dw) (vs := ys.toArray) (n := ys.length) (w₀ := wOf d0) (ws := dss.map wOf) G' ?a1 ?a2 ?a3 ?a8 ?a9 ?a10 ?a11 ?a12 ?a13 ?_
    case a1 => exact Z.fr.keep
    case a2 => exact (Z.nw (Dw, lstObj ys.toArray ys.length) (by k_mem)).1
    case a3 => exact hw.words fun q hq => (Z.nw q (.tail _ (.tail _ (.tail _ (.tail _ (.tail _ (.tail _ hq))))))).1
    case a8 => exact hh _
    case a9 => exact (show callerA.units + 3 + 400 < cLine by decide)
    case a10 => k_room
    case a11 => exact hB6
    case a12 => rw [List.length_map]; omega
    case a13 => exact fun q m => (words_plain hds q m).2
    intro h7 gs7 tk7 D7 us7 nu7 fD7 eD7 hS7 hB7 k7 hle
    have hlo7 := TokLo.up (TokLo.up ‹TokLo _ _› (by walk_at "my_le")) hle
    clear hle
    rw [lines_eqL] at hS7
    have q7 := Z.all k7 fD7 eD7 nt_list
    clear Z
    obtain ⟨a7, q7⟩ := q7
    obtain ⟨b7, q7⟩ := q7
    obtain ⟨c7, Z7⟩ := q7
    have F7 := Z7.fr
    have N7 := Z7.nw
    k_extra "goL"
    show wpAny _ _ _ _ _ _
    rename Fr _ _ _ _ => F
    rename News _ _ _ _ => N
    refine' ne_same (ns := (linesD (8 + (List.take 6 ns).sum.fmod 20) d0 dss).map textOf) ?e1 ?e2 ?e3 ?e4 ?e5 ?e6 ?_
    case e1 => exact (N (D6, lstObj us6 nu6) (by k_mem)).1
    case e2 => exact (N (D7, lstObj us7 nu7) (by k_mem)).1
    case e3 => exact hS6
    case e4 => exact hS7
    case e5 => exact lines_ok _ _ _ fun l hl => ((lines_okD hds hdl).1 l hl).1
    case e6 => exact (show callerA.units + 3 + 64 < cLine by decide)
    k_extra "goL"
    show wpAny _ _ _ _ _ _
    rename Fr _ _ _ _ => F
    rename News _ _ _ _ => N
    have Z := LawAt.mk F N Z7.nt Z7.t1 Z7.t2 Z7.t3
    clear F N Z7
    refine wpAny_tok ?_
    refine' inturn_spec (dss := linesD (8 + (List.take 6 ns).sum.fmod 20) d0 dss) G' ?a1 ?a2 ?a3 ?a4 ?a5 ?a6 ?a7 ?a8 ?a9 ?a10 ?a11 ?a12 ?_
    case a1 => exact Z.fr.keep
    case a2 => exact Z.tab3
    case a3 => exact Z.n3
    case a4 => exact hh _
    case a5 => exact (show callerA.units + 3 + 600 < cLine by decide)
    case a6 => k_room
    case a7 => exact hB7
    case a8 => exact (Z.nw (D6, lstObj us6 nu6) (by k_mem)).1
    case a9 => exact hS6
    case a10 => exact (lines_okD hds hdl).1
    case a11 => exact (lines_okD hds hdl).2
    case a12 => exact trPre_str hpos (by walk_at "my_lo") (by walk_at "my_lo") (by decide +kernel)
    intro h8 gs8 tk8 D8 us8 nu8 fD8 eD8 hR8 lo8 t8 hB8 k8 hle
    have hlo8 := TokLo.up (TokLo.up ‹TokLo _ _› (by walk_at "my_le")) hle
    clear hle
    rw [linesD_row] at hR8
    have q8 := Z.p225 k8 t8 fD8 eD8 nt_list
    clear Z
    obtain ⟨a8, q8⟩ := q8
    obtain ⟨b8, q8⟩ := q8
    obtain ⟨c8, Z8⟩ := q8
    have F8 := Z8.fr
    have N8 := Z8.nw
    clear k8 t8 fD8 eD8 lo8
    k_extra "goL"
    show wpAny _ _ _ _ _ _
    rename Fr _ _ _ _ => F
    rename News _ _ _ _ => N
    have Z := LawAt.mk F N Z8.nt Z8.t1 Z8.t2 Z8.t3
    clear F N Z8
    refine wpAny_tok ?_
    refine' translate_spec (ds := wholeD d0 dss) G' ?a1 ?a2 ?a3 ?a4 ?a5 ?a6 ?a7 rfl ?a8 ?a9 ?a10 ?a11 ?a12 ?a13 ?_
    case a1 => exact Z.fr.keep
    case a2 => exact Z.tab3
    case a3 => exact Z.n3
    case a4 => exact hh _
    case a5 => exact (show callerA.units + 3 + 400 < cLine by decide)
    case a6 => k_room
    case a7 => exact hB8
    case a8 => exact whole_lt hds
    case a9 => exact whole_len hds hdl
    case a10 => exact (trPre_str (tq := tk₁ + 1) (sign := "any") hpos (by walk_at "my_lo") ⟨Nat.le_refl _⟩ (by decide +kernel)).pos
    case a11 => exact selfSame_str (Nat.ne_of_gt hpos)
    case a12 => exact (trPre_str (tq := tk₁ + 1) (sign := "any") hpos (by walk_at "my_lo") ⟨Nat.le_refl _⟩ (by decide +kernel)).new
    case a13 => exact (trPre_str (n0 := tk₁ + 1) hpos ⟨Nat.le_refl _⟩ (by walk_at "my_lo") (by decide +kernel)).sign
    intro h9 gs9 tk9 D9 us9 nu9 fD9 eD9 hR9 lo9 t9 hB9 k9 hle
    have hlo9 := TokLo.up (TokLo.up ‹TokLo _ _› (by walk_at "my_le")) hle
    clear hle
    have q9 := Z.p225 k9 t9 fD9 eD9 nt_list
    clear Z
    obtain ⟨a9, q9⟩ := q9
    obtain ⟨b9, q9⟩ := q9
    obtain ⟨c9, Z9⟩ := q9
    have F9 := Z9.fr
    have N9 := Z9.nw
    clear k9 t9 fD9 eD9 lo9
    k_extra "goL"
    show wpAny _ _ _ _ _ _
    rename Fr _ _ _ _ => F
    rename News _ _ _ _ => N
    have Z := LawAt.mk F (news_swap N) (nt_cons (show NT (lstObj #[.ref D8, .ref D9] 0) from nt_list) Z9.nt) Z9.t1 Z9.t2 Z9.t3
    clear F N Z9
    refine wpAny_tok ?_
    refine' parts_spec (wl := Dw) (vs := ys.toArray) (n := ys.length) (w₀ := wOf d0) (ws := dss.map wOf) G' ?a1 ?a2 ?a3 ?a8 ?a9 ?a10 ?a11 ?a12 ?a13 ?_
    case a1 => exact Z.fr.keep
    case a2 => exact (Z.nw (Dw, lstObj ys.toArray ys.length) (by k_mem)).1
    case a3 => exact hw.words fun q hq => (Z.nw q (.tail _ (.tail _ (.tail _ (.tail _ (.tail _ (.tail _ (.tail _ (.tail _ (.tail _ (.tail _ hq))))))))))).1
    case a8 => exact hh _
    case a9 => exact (show callerA.units + 3 + 400 < cLine by decide)
    case a10 => k_room
    case a11 => exact hB9
    case a12 => rw [List.length_map]; omega
    case a13 => exact words_rows hds
    intro h10 gs10 tk10 D10 us10 nu10 fD10 eD10 hS10 hB10 k10 hle
    have hlo10 := TokLo.up (TokLo.up ‹TokLo _ _› (by walk_at "my_le")) hle
    clear hle
    rw [parts_eq] at hS10
    have q10 := Z.all k10 fD10 eD10 nt_list
    clear Z
    obtain ⟨a10, q10⟩ := q10
    obtain ⟨b10, q10⟩ := q10
    obtain ⟨c10, Z10⟩ := q10
    have F10 := Z10.fr
    have N10 := Z10.nw
    clear k10 fD10 eD10
    k_extra "goL"
    show wpAny _ _ _ _ _ _
    rename Fr _ _ _ _ => F
    rename News _ _ _ _ => N
    have Z := LawAt.mk F N Z10.nt Z10.t1 Z10.t2 Z10.t3
    clear F N Z10
    refine wpAny_tok ?_
    refine' parts_spec (wl := Dw) (vs := ys.toArray) (n := ys.length) (w₀ := wOf d0) (ws := dss.map wOf) G' ?a1 ?a2 ?a3 ?a8 ?a9 ?a10 ?a11 ?a12 ?a13 ?_
    case a1 => exact Z.fr.keep
    case a2 => exact (Z.nw (Dw, lstObj ys.toArray ys.length) (by k_mem)).1
    case a3 => exact hw.words fun q hq => (Z.nw q (.tail _ (.tail _ (.tail _ (.tail _ (.tail _ (.tail _ (.tail _ (.tail _ (.tail _ (.tail _ (.tail _ hq)))))))))))).1
    case a8 => exact hh _
    case a9 => exact (show callerA.units + 3 + 400 < cLine by decide)
    case a10 => k_room
    case a11 => exact hB10
    case a12 => rw [List.length_map]; omega
    case a13 => exact words_rows hds
    intro h11 gs11 tk11 D11 us11 nu11 fD11 eD11 hS11 hB11 k11 hle
    have hlo11 := TokLo.up (TokLo.up ‹TokLo _ _› (by walk_at "my_le")) hle
    clear hle
    rw [parts_eq] at hS11
    have q11 := Z.all k11 fD11 eD11 nt_list
    clear Z
    obtain ⟨a11, q11⟩ := q11
    obtain ⟨b11, q11⟩ := q11
    obtain ⟨c11, Z11⟩ := q11
    have F11 := Z11.fr
    have N11 := Z11.nw
    clear k11 fD11 eD11
    k_extra "goL"
    show wpAny _ _ _ _ _ _
    rename Fr _ _ _ _ => F
    rename News _ _ _ _ => N
    refine' ne_two (a := D8) (b := D9) (c := D10) (d := D11) (n := 0) (k := 0) (ns := rowTxt (rowOf "any" (wholeD d0 dss))) ?e1 ?e2 ?e3 ?e4 ?e5 ?e6 ?e7 ?e8 ?e9 ?e10 ?e11 ?e12 ?_
    case e1 => exact (N (_, lstObj #[.ref D8, .ref D9] 0) (by k_mem)).1
    case e2 => exact (N (_, lstObj #[.ref D10, .ref D11] 0) (by k_mem)).1
    case e3 => exact (N (D8, lstObj us8 nu8) (by k_mem)).1
    case e4 => exact (N (D9, lstObj us9 nu9) (by k_mem)).1
    case e5 => exact (N (D10, lstObj us10 nu10) (by k_mem)).1
    case e6 => exact (N (D11, lstObj us11 nu11) (by k_mem)).1
    case e7 => exact trRow_strs hR8
    case e8 => exact trRow_strs hR9
    case e9 => exact hS10
    case e10 => exact hS11
    case e11 => exact rowTxt_ok _
    case e12 => exact (show callerA.units + 3 + 64 < cLine by decide)
    k_extra "goL"
    show wpAny _ _ _ _ _ _
    rename Fr _ _ _ _ => F
    rename News _ _ _ _ => N
    have Z := LawAt.mk F (news_swap N) (nt_cons (show NT (lstObj #[.ref D10, .ref D11] 0) from nt_list) Z11.nt) Z11.t1 Z11.t2 Z11.t3
    clear F N Z11
    refine wpAny_tok ?_
    refine' inturn_spec (dss := linesD (8 + (List.take 6 ns).sum.fmod 20) d0 dss) G' ?a1 ?a2 ?a3 ?a4 ?a5 ?a6 ?a7 ?a8 ?a9 ?a10 ?a11 ?a12 ?_
    case a1 => exact Z.fr.keep
    case a2 => exact Z.tab3
    case a3 => exact Z.n3
    case a4 => exact hh _
    case a5 => exact (show callerA.units + 3 + 600 < cLine by decide)
    case a6 => k_room
    case a7 => exact hB11
    case a8 => exact (Z.nw (D6, lstObj us6 nu6) (by k_mem)).1
    case a9 => exact hS6
    case a10 => exact (lines_okD hds hdl).1
    case a11 => exact (lines_okD hds hdl).2
    case a12 => exact trPre_str hpos (by walk_at "my_lo") (by walk_at "my_lo") (by decide +kernel)
    intro h12 gs12 tk12 D12 us12 nu12 fD12 eD12 hR12 lo12 t12 hB12 k12 hle
    have hlo12 := TokLo.up (TokLo.up ‹TokLo _ _› (by walk_at "my_le")) hle
    clear hle
    rw [linesD_row] at hR12
    have q12 := Z.p225 k12 t12 fD12 eD12 nt_list
    clear Z
    obtain ⟨a12, q12⟩ := q12
    obtain ⟨b12, q12⟩ := q12
    obtain ⟨c12, Z12⟩ := q12
    have F12 := Z12.fr
    have N12 := Z12.nw
    clear k12 t12 fD12 eD12 lo12
    k_extra "goL"
    show wpAny _ _ _ _ _ _
    rename Fr _ _ _ _ => F
    rename News _ _ _ _ => N
    have Z := LawAt.mk F N Z12.nt Z12.t1 Z12.t2 Z12.t3
    clear F N Z12
    refine wpAny_tok ?_
    refine' joined_spec (us := us12) (n := nu12) (row := rowOf "." (wholeD d0 dss)) G' ?a1 ?a2 ?a3 ?a4 ?a5 ?a6 ?a7 ?a8 ?a9 ?a10 ?a11 ?a12 ?_
    case a1 => exact Z.fr.keep
    case a2 => exact hh _
    case a3 => exact (show callerA.units + 3 + 400 < cLine by decide)
    case a4 => k_room
    case a5 => exact (Z.nw (D12, lstObj us12 nu12) (by k_mem)).1
    case a6 => exact (Z.nw (D12, lstObj us12 nu12) (by k_mem)).2.2
    case a7 => exact hR12
    case a8 => exact selfSame_str (Nat.ne_of_gt hpos)
    case a9 => exact isSelf_str (Nat.ne_of_gt hpos)
    case a10 => exact Nat.le_trans (rowOf_le _ _) (Nat.le_trans (whole_len hds hdl) (by decide))
    case a11 => exact rowOf_short (by decide +kernel) (wholeD d0 dss) [] (fun x m => (List.not_mem_nil m).elim)
    case a12 => exact rowOf_noTwo (whole_lt hds)
    intro h13 tk13 t13 k13 lo13 hle
    have hlo13 := TokLo.up (TokLo.up ‹TokLo _ _› (by walk_at "my_le")) hle
    clear hle
    have Z13 := Z.keep k13
    clear Z k13 lo13
    have F13 := Z13.fr
    have N13 := Z13.nw
    k_extra "goL"
    show wpAny _ _ _ _ _ _
    rename Fr _ _ _ _ => F
    rename News _ _ _ _ => N
    have Z := LawAt.mk F N Z13.nt Z13.t1 Z13.t2 Z13.t3
    clear F N Z13
    refine wpAny_tok ?_
    refine' tran_spec (ds := wholeD d0 dss) G' ?a1 ?a2 ?a3 ?a4 ?a5 ?a6 ?a7 rfl ?a8 ?a9 ?a10 ?_
    case a1 => exact Z.fr.keep
    case a2 => exact Z.tab3
    case a3 => exact Z.n3
    case a4 => exact hh _
    case a5 => exact (show callerA.units + 3 + 600 < cLine by decide)
    case a6 => k_room
    case a7 => exact hB12
    case a8 => exact whole_lt hds
    case a9 => exact whole_len hds hdl
    case a10 => exact (trPre_str (tq := tk₁ + 1) (sign := "any") hpos (by walk_at "my_lo") ⟨Nat.le_refl _⟩ (by decide +kernel)).pos
    intro h14 gs14 tk14 t14 T14 hB14 lo14 k14 hle
    have q14 := Z.p225_0 k14 T14
    clear Z k14 T14 lo14
    obtain ⟨a14, q14⟩ := q14
    obtain ⟨b14, q14⟩ := q14
    obtain ⟨c14, Z14⟩ := q14
    have F14 := Z14.fr
    have N14 := Z14.nw
    have hlo14 := TokLo.up (TokLo.up ‹TokLo _ _› (by walk_at "my_le")) hle
    clear hle
    k_extra "goL"
    show Q' (Flow.ret (Value.bool _)) _
    refine hQ' _ _ ⟨?_, F14.keep, ⟨⟨a14, (N14 (157, tabObj a14) (by k_mem)).1⟩, ⟨b14, (N14 (164, tabObj b14) (by k_mem)).1⟩, ⟨c14, (N14 (225, tabObj c14) (by k_mem)).1⟩, trivial⟩, rfl, hB14⟩
    rw [beq_self_eq_true])
end
end Mine
theorem PySem.Challenge.cw_in0026_02_holds : PySem.Challenge.rw_in0026_02.Holds := by
  exact Mine.law_holds
