import PyProof.Rows.All
import Wide.All
import OpenK.AllK
import Wide.FinOn
import KE.KSortAsk
import KE.KSortTup
import Lean
import PySem.Challenge.RW_oy0121_01
section
open PySem PySem.W PyProof.Rows
set_option Elab.async false
set_option maxRecDepth 100000
set_option maxHeartbeats 8000000
namespace Mine
theorem cutHead {X G : Prop} (hl : X) (k : G) : G := (fun _ => k) hl
noncomputable abbrev P0 : Program := Challenge.rw_oy0121_01.row.prog
/-! the heap that the text's top leaves, written out -/
noncomputable def nth : List Stmt → Nat → Stmt
  | [], _ => .Pass ⟨0, 0, 0, 0⟩
  | x :: _, 0 => x
  | _ :: l, n + 1 => nth l n
noncomputable def inCls : Stmt → List Stmt
  | .ClassDef _ _ _ b .. => b
  | _ => []
noncomputable def fst_ (k : Nat) : Stmt := match Nat.ble 100 k with
  | true => nth (inCls (nth P0.main.body (k / 100 - 1))) (k % 100)
  | false => nth P0.main.body k
noncomputable def sP : Stmt → Arguments
  | .FunctionDef _ a .. => a
  | _ => ⟨[], [], none, [], [], none, []⟩
noncomputable def sB : Stmt → List Stmt
  | .FunctionDef _ _ b .. => b
  | _ => []
noncomputable def sS : Stmt → Scope
  | .FunctionDef _ _ _ _ _ _ s .. => s
  | _ => P0.main.scope
noncomputable def fP (k : Nat) : Arguments := sP (fst_ k)
noncomputable def fB (k : Nat) : List Stmt := sB (fst_ k)
noncomputable def fS (k : Nat) : Scope := sS (fst_ k)
noncomputable def kv (P : Params) (s : String) (t : Tok) (v : Value) : DictEntry := { hash := PyData.keyHash P (Str.ofString s), key := .str (Str.ofString s) t, val := v }
noncomputable def sv (s : String) (t : Tok) : Value := .str (Str.ofString s) t
noncomputable def so (s : String) : Str := Str.ofString s
noncomputable def tu (l : List Value) : Obj := { cls := .type "tuple", data := .seq ⟨l⟩ }
noncomputable def fi (l : List Value) : Obj := { cls := .none, data := .fields ⟨l⟩ }
noncomputable def co (l : List Value) : Obj := { cls := .type "code", data := .fields ⟨l⟩ }
noncomputable def H1_1 (P : Params) : List Obj := [
  (boot_o_0 P),
  (boot_o_1 P),
  (boot_o_2 P),
  { cls := .type "dict", data := Data.dict #[kv P "__name__" 165 (sv "law_oy0121_01" 420), kv P "__doc__" 166 (.none), kv P "__package__" 167 (.none), kv P "__loader__" 168 (.builtin "__main__.__loader__#opaque"), kv P "__spec__" 169 (.none), kv P "__annotations__" 170 (.ref 6), kv P "__builtins__" 171 (.ref 4), kv P "__file__" 173 (sv "/claim/cut.py" 172), kv P "__cached__" 174 (.none), kv P "_wall" 193 (.ref 21), kv P "heappush" 203 (.ref 28), kv P "heappop" 212 (.ref 35), kv P "heapify" 221 (.ref 42), kv P "_siftdown" 233 (.ref 49), kv P "_siftup" 246 (.ref 56), kv P "bytes_types" 249 (.ref 57), kv P "_bytes_from_decode_data" 256 (.ref 64), kv P "Error" 276 (.ref 74), kv P "_ascii_buffer" 284 (.ref 84), kv P "_buffer" 292 (.ref 91), kv P "_truth" 300 (.ref 98), kv P "_B64" 302 (.bytes #[65, 66, 67, 68, 69, 70, 71, 72, 73, 74, 75, 76, 77, 78, 79, 80, 81, 82, 83, 84, 85, 86, 87, 88, 89, 90, 97, 98, 99, 100, 101, 102, 103, 104, 105, 106, 107, 108, 109, 110, 111, 112, 113, 114, 115, 116, 117, 118, 119, 120, 121, 122, 48, 49, 50, 51, 52, 53, 54, 55, 56, 57, 43, 47] 301), kv P "_b64_value" 309 (.ref 105), kv P "a2b_base64" 325 (.ref 113), kv P "b2a_base64" 339 (.ref 121), kv P "b64encode" 350 (.ref 129), kv P "b64decode" 359 (.ref 137), kv P "_netrclex" 419 (.ref 175), kv P "_law_octets" 427 (.ref 184), kv P "_law_written" 433 (.ref 189), kv P "_law_spelled" 439 (.ref 194), kv P "_law_words" 452 (.ref 201), kv P "_law_column" 458 (.ref 206), kv P "_law_rings" 464 (.ref 211), kv P "_law_told" 470 (.ref 216), kv P "_law_heard" 476 (.ref 221), kv P "law" 482 (.ref 226)] 37 },
  (boot_o_4 P),
  (boot_o_5 P),
  (boot_o_6 P),
  (boot_o_7 P),
  (boot_o_8 P),
  (boot_o_9 P),
  (boot_o_10 P),
  tu [],
  fi [.int 1 0, .int 0 0, .ref 20, .int 5 0, .int 0 0, .ref 27, .int 8 0, .int 0 0, .ref 34, .int 16 0, .int 0 0, .ref 41, .int 20 0, .int 0 0, .ref 48, .int 31 0, .int 0 0, .ref 55, .int 47 0, .int 0 0, .ref 63, .int 60 0, .int 0 0, .ref 70, .int 62 0, .int 0 0, .ref 83, .int 73 0, .int 0 0, .ref 90, .int 80 0, .int 0 0, .ref 97, .int 86 0, .int 0 0, .ref 104, .int 98 0, .int 0 0, .ref 112, .int 152 0, .int 0 0, .ref 120, .int 175 0, .int 0 0, .ref 128, .int 181 0, .int 0 0, .ref 136, .int 189 0, .int 0 0, .ref 143, .int 233 0, .int 0 0, .ref 183, .int 235 0, .int 0 0, .ref 188, .int 245 0, .int 0 0, .ref 193, .int 250 0, .int 0 0, .ref 200, .int 264 0, .int 0 0, .ref 205, .int 271 0, .int 0 0, .ref 210, .int 287 0, .int 0 0, .ref 215, .int 295 0, .int 0 0, .ref 220, .int 302 0, .int 0 0, .ref 225],
  co [sv "<module>" 182, sv "<module>" 183, sv "/claim/cut.py" 184, .int 1 0, .int 0 0, .int 0 0, .int 0 0, .int 0 0, .ref 11, .bool false, .int 181 0, .ref 12, .none, .none, .none, .none, .int 185 0, .int 1 0, sv "/claim/cut.py" 186],
  { cls := .type "frame", slots := #[some (.ref 13), some (.ref 3), some (.ref 3), none, some (sv "__main__" 164), none, some (.ref 0)] },
  tu [],
  fi [],
  tu [sv "k" 190],
  tu [],
  { cls := .none, data := Data.func { name := so "_wall", qualname := so "_wall", params := fP 0, body := FuncBody.stmts (fB 0), scope := fS 0, globals := 0, closure := [], defaults := .none, kwdefaults := .none } },
  co [sv "_wall" 187, sv "_wall" 188, sv "/claim/cut.py" 189, .int 1 0, .int 1 0, .int 0 0, .int 0 0, .int 3 0, .ref 15, .bool true, .int 181 0, .ref 16, .none, .ref 17, .ref 18, .ref 19, .int 191 0, .int 1 0, sv "/claim/cut.py" 192],
  { cls := .type "function", data := Data.func { name := so "_wall", qualname := so "_wall", params := fP 0, body := FuncBody.stmts (fB 0), scope := fS 0, globals := 3, closure := [], defaults := .none, kwdefaults := .none, pyModule := sv "__main__" 164, code := .ref 20 } },
  tu [],
  fi [],
  tu [sv "heap" 199, sv "item" 200],
  tu [],
  { cls := .none, data := Data.func { name := so "heappush", qualname := so "heappush", params := fP 2, body := FuncBody.stmts (fB 2), scope := fS 2, globals := 0, closure := [], defaults := .none, kwdefaults := .none } },
  co [sv "heappush" 196, sv "heappush" 197, sv "/claim/cut.py" 198, .int 5 0, .int 2 0, .int 0 0, .int 0 0, .int 3 0, .ref 22, .bool true, .int 181 0, .ref 23, .none, .ref 24, .ref 25, .ref 26, .int 201 0, .int 5 0, sv "/claim/cut.py" 202],
  { cls := .type "function", data := Data.func { name := so "heappush", qualname := so "heappush", params := fP 2, body := FuncBody.stmts (fB 2), scope := fS 2, globals := 3, closure := [], defaults := .none, kwdefaults := .none, pyModule := sv "cpy313.heapq" 194, code := .ref 27 } },
  tu []]
noncomputable def H1_2 (P : Params) : List Obj := [
  fi [],
  tu [sv "heap" 207, sv "lastelt" 208, sv "returnitem" 209],
  tu [],
  { cls := .none, data := Data.func { name := so "heappop", qualname := so "heappop", params := fP 3, body := FuncBody.stmts (fB 3), scope := fS 3, globals := 0, closure := [], defaults := .none, kwdefaults := .none } },
  co [sv "heappop" 204, sv "heappop" 205, sv "/claim/cut.py" 206, .int 8 0, .int 1 0, .int 0 0, .int 0 0, .int 3 0, .ref 29, .bool true, .int 181 0, .ref 30, .none, .ref 31, .ref 32, .ref 33, .int 210 0, .int 8 0, sv "/claim/cut.py" 211],
  { cls := .type "function", data := Data.func { name := so "heappop", qualname := so "heappop", params := fP 3, body := FuncBody.stmts (fB 3), scope := fS 3, globals := 3, closure := [], defaults := .none, kwdefaults := .none, pyModule := sv "cpy313.heapq" 194, code := .ref 34 } },
  tu [],
  fi [],
  tu [sv "x" 216, sv "n" 217, sv "i" 218],
  tu [],
  { cls := .none, data := Data.func { name := so "heapify", qualname := so "heapify", params := fP 4, body := FuncBody.stmts (fB 4), scope := fS 4, globals := 0, closure := [], defaults := .none, kwdefaults := .none } },
  co [sv "heapify" 213, sv "heapify" 214, sv "/claim/cut.py" 215, .int 16 0, .int 1 0, .int 0 0, .int 0 0, .int 3 0, .ref 36, .bool true, .int 181 0, .ref 37, .none, .ref 38, .ref 39, .ref 40, .int 219 0, .int 16 0, sv "/claim/cut.py" 220],
  { cls := .type "function", data := Data.func { name := so "heapify", qualname := so "heapify", params := fP 4, body := FuncBody.stmts (fB 4), scope := fS 4, globals := 3, closure := [], defaults := .none, kwdefaults := .none, pyModule := sv "cpy313.heapq" 194, code := .ref 41 } },
  tu [],
  fi [],
  tu [sv "heap" 225, sv "startpos" 226, sv "pos" 227, sv "newitem" 228, sv "parentpos" 229, sv "parent" 230],
  tu [],
  { cls := .none, data := Data.func { name := so "_siftdown", qualname := so "_siftdown", params := fP 5, body := FuncBody.stmts (fB 5), scope := fS 5, globals := 0, closure := [], defaults := .none, kwdefaults := .none } },
  co [sv "_siftdown" 222, sv "_siftdown" 223, sv "/claim/cut.py" 224, .int 20 0, .int 3 0, .int 0 0, .int 0 0, .int 3 0, .ref 43, .bool true, .int 181 0, .ref 44, .none, .ref 45, .ref 46, .ref 47, .int 231 0, .int 20 0, sv "/claim/cut.py" 232],
  { cls := .type "function", data := Data.func { name := so "_siftdown", qualname := so "_siftdown", params := fP 5, body := FuncBody.stmts (fB 5), scope := fS 5, globals := 3, closure := [], defaults := .none, kwdefaults := .none, pyModule := sv "cpy313.heapq" 194, code := .ref 48 } },
  tu [],
  fi [],
  tu [sv "heap" 237, sv "pos" 238, sv "endpos" 239, sv "startpos" 240, sv "newitem" 241, sv "childpos" 242, sv "rightpos" 243],
  tu [],
  { cls := .none, data := Data.func { name := so "_siftup", qualname := so "_siftup", params := fP 6, body := FuncBody.stmts (fB 6), scope := fS 6, globals := 0, closure := [], defaults := .none, kwdefaults := .none } },
  co [sv "_siftup" 234, sv "_siftup" 235, sv "/claim/cut.py" 236, .int 31 0, .int 2 0, .int 0 0, .int 0 0, .int 3 0, .ref 50, .bool true, .int 181 0, .ref 51, .none, .ref 52, .ref 53, .ref 54, .int 244 0, .int 31 0, sv "/claim/cut.py" 245],
  { cls := .type "function", data := Data.func { name := so "_siftup", qualname := so "_siftup", params := fP 6, body := FuncBody.stmts (fB 6), scope := fS 6, globals := 3, closure := [], defaults := .none, kwdefaults := .none, pyModule := sv "cpy313.heapq" 194, code := .ref 55 } },
  tu [.type "bytes", .type "bytearray"],
  tu [],
  fi []]
noncomputable def H1_3 (P : Params) : List Obj := [
  tu [sv "s" 253],
  tu [],
  { cls := .none, data := Data.func { name := so "_bytes_from_decode_data", qualname := so "_bytes_from_decode_data", params := fP 9, body := FuncBody.stmts (fB 9), scope := fS 9, globals := 0, closure := [], defaults := .none, kwdefaults := .none } },
  co [sv "_bytes_from_decode_data" 250, sv "_bytes_from_decode_data" 251, sv "/claim/cut.py" 252, .int 47 0, .int 1 0, .int 0 0, .int 0 0, .int 3 0, .ref 58, .bool true, .int 181 0, .ref 59, .none, .ref 60, .ref 61, .ref 62, .int 254 0, .int 47 0, sv "/claim/cut.py" 255],
  { cls := .type "function", data := Data.func { name := so "_bytes_from_decode_data", qualname := so "_bytes_from_decode_data", params := fP 9, body := FuncBody.stmts (fB 9), scope := fS 9, globals := 3, closure := [], defaults := .none, kwdefaults := .none, pyModule := sv "cpy313.base64" 247, code := .ref 63 } },
  tu [.type "ValueError"],
  { cls := .type "builtin_function_or_method", data := Data.fields #[.builtin "type.__prepare__", .type "type"] },
  { cls := .type "dict", data := Data.dict #[kv P "__module__" 266 (sv "binascii" 257), kv P "__qualname__" 268 (sv "Error" 267), kv P "__firstlineno__" 270 (.int 60 269), kv P "__static_attributes__" 271 (.ref 72)] 4 },
  tu [],
  fi [],
  co [sv "Error" 261, sv "Error" 262, sv "/claim/cut.py" 263, .int 60 0, .int 0 0, .int 0 0, .int 0 0, .int 0 0, .ref 68, .bool false, .int 181 0, .ref 69, .none, .none, .none, .none, .int 264 0, .int 60 0, sv "/claim/cut.py" 265],
  { cls := .type "frame", slots := #[some (.ref 70), some (.ref 3), some (.ref 67), none, some (sv "binascii" 257), none, some (.ref 0)] },
  tu [],
  { cls := .type "dict", data := Data.dict #[kv P "__module__" 266 (sv "binascii" 257), kv P "__firstlineno__" 270 (.int 60 269), kv P "__static_attributes__" 271 (.ref 72), kv P "__weakref__" 273 (.ref 75), kv P "__doc__" 274 (.none)] 3 },
  { cls := .type "type", data := Data.cls { name := so "Error", bases := [.type "ValueError"], mro := [.ref 74, .type "ValueError", .type "Exception", .type "BaseException", .type "object"], ns := 73, qualname := so "Error" }, slots := #[some (.ref 65), none, some (sv "Error" 259), some (sv "Error" 267), some (.builtin "ValueError.__new__"), some (.bool true)] },
  { cls := .type "getset_descriptor", data := Data.fields #[sv "__weakref__" 272, .ref 74, .builtin "ExceptionGroup.__weakref__", .none] },
  { cls := .type "super", data := Data.fields #[.ref 74, .ref 74, .ref 74] },
  { cls := .type "builtin_function_or_method", data := Data.fields #[.builtin "object.__init_subclass__", .ref 74] },
  tu [],
  fi [],
  tu [sv "data" 280, sv "t" 281],
  tu [],
  { cls := .none, data := Data.func { name := so "_ascii_buffer", qualname := so "_ascii_buffer", params := fP 12, body := FuncBody.stmts (fB 12), scope := fS 12, globals := 0, closure := [], defaults := .none, kwdefaults := .none } },
  co [sv "_ascii_buffer" 277, sv "_ascii_buffer" 278, sv "/claim/cut.py" 279, .int 62 0, .int 1 0, .int 0 0, .int 0 0, .int 3 0, .ref 78, .bool true, .int 181 0, .ref 79, .none, .ref 80, .ref 81, .ref 82, .int 282 0, .int 62 0, sv "/claim/cut.py" 283],
  { cls := .type "function", data := Data.func { name := so "_ascii_buffer", qualname := so "_ascii_buffer", params := fP 12, body := FuncBody.stmts (fB 12), scope := fS 12, globals := 3, closure := [], defaults := .none, kwdefaults := .none, pyModule := sv "binascii" 257, code := .ref 83 } },
  tu [],
  fi [],
  tu [sv "data" 288, sv "t" 289],
  tu [],
  { cls := .none, data := Data.func { name := so "_buffer", qualname := so "_buffer", params := fP 13, body := FuncBody.stmts (fB 13), scope := fS 13, globals := 0, closure := [], defaults := .none, kwdefaults := .none } }]
noncomputable def H1_4 (P : Params) : List Obj := [
  co [sv "_buffer" 285, sv "_buffer" 286, sv "/claim/cut.py" 287, .int 73 0, .int 1 0, .int 0 0, .int 0 0, .int 3 0, .ref 85, .bool true, .int 181 0, .ref 86, .none, .ref 87, .ref 88, .ref 89, .int 290 0, .int 73 0, sv "/claim/cut.py" 291],
  { cls := .type "function", data := Data.func { name := so "_buffer", qualname := so "_buffer", params := fP 13, body := FuncBody.stmts (fB 13), scope := fS 13, globals := 3, closure := [], defaults := .none, kwdefaults := .none, pyModule := sv "binascii" 257, code := .ref 90 } },
  tu [],
  fi [],
  tu [sv "x" 296, sv "t" 297],
  tu [],
  { cls := .none, data := Data.func { name := so "_truth", qualname := so "_truth", params := fP 14, body := FuncBody.stmts (fB 14), scope := fS 14, globals := 0, closure := [], defaults := .none, kwdefaults := .none } },
  co [sv "_truth" 293, sv "_truth" 294, sv "/claim/cut.py" 295, .int 80 0, .int 1 0, .int 0 0, .int 0 0, .int 3 0, .ref 92, .bool true, .int 181 0, .ref 93, .none, .ref 94, .ref 95, .ref 96, .int 298 0, .int 80 0, sv "/claim/cut.py" 299],
  { cls := .type "function", data := Data.func { name := so "_truth", qualname := so "_truth", params := fP 14, body := FuncBody.stmts (fB 14), scope := fS 14, globals := 3, closure := [], defaults := .none, kwdefaults := .none, pyModule := sv "binascii" 257, code := .ref 97 } },
  tu [],
  fi [],
  tu [sv "c" 306],
  tu [],
  { cls := .none, data := Data.func { name := so "_b64_value", qualname := so "_b64_value", params := fP 16, body := FuncBody.stmts (fB 16), scope := fS 16, globals := 0, closure := [], defaults := .none, kwdefaults := .none } },
  co [sv "_b64_value" 303, sv "_b64_value" 304, sv "/claim/cut.py" 305, .int 86 0, .int 1 0, .int 0 0, .int 0 0, .int 3 0, .ref 99, .bool true, .int 181 0, .ref 100, .none, .ref 101, .ref 102, .ref 103, .int 307 0, .int 86 0, sv "/claim/cut.py" 308],
  { cls := .type "function", data := Data.func { name := so "_b64_value", qualname := so "_b64_value", params := fP 16, body := FuncBody.stmts (fB 16), scope := fS 16, globals := 3, closure := [], defaults := .none, kwdefaults := .none, pyModule := sv "binascii" 257, code := .ref 104 } },
  { cls := .type "dict", data := Data.dict #[kv P "strict_mode" 310 (.bool false)] 1 },
  tu [],
  fi [],
  tu [sv "data" 314, sv "strict_mode" 315, sv "ascii_data" 316, sv "out" 317, sv "quad_pos" 318, sv "leftchar" 319, sv "pads" 320, sv "i" 321, sv "this_ch" 322],
  tu [],
  { cls := .none, data := Data.func { name := so "a2b_base64", qualname := so "a2b_base64", params := fP 17, body := FuncBody.stmts (fB 17), scope := fS 17, globals := 0, closure := [], defaults := .none, kwdefaults := .none } },
  co [sv "a2b_base64" 311, sv "a2b_base64" 312, sv "/claim/cut.py" 313, .int 98 0, .int 1 0, .int 1 0, .int 1 0, .int 3 0, .ref 107, .bool true, .int 181 0, .ref 108, .none, .ref 109, .ref 110, .ref 111, .int 323 0, .int 98 0, sv "/claim/cut.py" 324],
  { cls := .type "function", data := Data.func { name := so "a2b_base64", qualname := so "a2b_base64", params := fP 17, body := FuncBody.stmts (fB 17), scope := fS 17, globals := 3, closure := [], defaults := .none, kwdefaults := .ref 106, pyModule := sv "binascii" 257, code := .ref 112 } },
  { cls := .type "dict", data := Data.dict #[kv P "newline" 326 (.bool true)] 1 },
  tu [],
  fi [],
  tu [sv "data" 330, sv "newline" 331, sv "bin_data" 332, sv "out" 333, sv "leftbits" 334, sv "leftchar" 335, sv "b" 336],
  tu [],
  { cls := .none, data := Data.func { name := so "b2a_base64", qualname := so "b2a_base64", params := fP 18, body := FuncBody.stmts (fB 18), scope := fS 18, globals := 0, closure := [], defaults := .none, kwdefaults := .none } }]
noncomputable def H1_5 (P : Params) : List Obj := [
  co [sv "b2a_base64" 327, sv "b2a_base64" 328, sv "/claim/cut.py" 329, .int 152 0, .int 1 0, .int 1 0, .int 1 0, .int 3 0, .ref 115, .bool true, .int 181 0, .ref 116, .none, .ref 117, .ref 118, .ref 119, .int 337 0, .int 152 0, sv "/claim/cut.py" 338],
  { cls := .type "function", data := Data.func { name := so "b2a_base64", qualname := so "b2a_base64", params := fP 18, body := FuncBody.stmts (fB 18), scope := fS 18, globals := 3, closure := [], defaults := .none, kwdefaults := .ref 114, pyModule := sv "binascii" 257, code := .ref 120 } },
  tu [.none],
  tu [],
  fi [],
  tu [sv "s" 345, sv "altchars" 346, sv "encoded" 347],
  tu [],
  { cls := .none, data := Data.func { name := so "b64encode", qualname := so "b64encode", params := fP 20, body := FuncBody.stmts (fB 20), scope := fS 20, globals := 0, closure := [], defaults := .none, kwdefaults := .none } },
  co [sv "b64encode" 342, sv "b64encode" 343, sv "/claim/cut.py" 344, .int 175 0, .int 2 0, .int 0 0, .int 0 0, .int 3 0, .ref 123, .bool true, .int 181 0, .ref 124, .none, .ref 125, .ref 126, .ref 127, .int 348 0, .int 175 0, sv "/claim/cut.py" 349],
  { cls := .type "function", data := Data.func { name := so "b64encode", qualname := so "b64encode", params := fP 20, body := FuncBody.stmts (fB 20), scope := fS 20, globals := 3, closure := [], defaults := .ref 122, kwdefaults := .none, pyModule := sv "cpy313.base64" 340, code := .ref 128 } },
  tu [.none, .bool false],
  tu [],
  fi [],
  tu [sv "s" 354, sv "altchars" 355, sv "validate" 356],
  tu [],
  { cls := .none, data := Data.func { name := so "b64decode", qualname := so "b64decode", params := fP 21, body := FuncBody.stmts (fB 21), scope := fS 21, globals := 0, closure := [], defaults := .none, kwdefaults := .none } },
  co [sv "b64decode" 351, sv "b64decode" 352, sv "/claim/cut.py" 353, .int 181 0, .int 3 0, .int 0 0, .int 0 0, .int 3 0, .ref 131, .bool true, .int 181 0, .ref 132, .none, .ref 133, .ref 134, .ref 135, .int 357 0, .int 181 0, sv "/claim/cut.py" 358],
  { cls := .type "function", data := Data.func { name := so "b64decode", qualname := so "b64decode", params := fP 21, body := FuncBody.stmts (fB 21), scope := fS 21, globals := 3, closure := [], defaults := .ref 130, kwdefaults := .none, pyModule := sv "cpy313.base64" 340, code := .ref 136 } },
  tu [],
  { cls := .type "builtin_function_or_method", data := Data.fields #[.builtin "type.__prepare__", .type "type"] },
  { cls := .type "dict", data := Data.dict #[kv P "__module__" 369 (sv "cpy313.netrc" 360), kv P "__qualname__" 371 (sv "_netrclex" 370), kv P "__firstlineno__" 373 (.int 189 372), kv P "__init__" 381 (.ref 151), kv P "_read_char" 389 (.ref 158), kv P "get_token" 399 (.ref 165), kv P "push_token" 407 (.ref 172), kv P "__static_attributes__" 412 (.ref 173)] 8 },
  tu [],
  fi [.int 191 0, .int 4 0, .ref 150, .int 197 0, .int 4 0, .ref 157, .int 203 0, .int 4 0, .ref 164, .int 230 0, .int 4 0, .ref 171],
  co [sv "_netrclex" 364, sv "_netrclex" 365, sv "/claim/cut.py" 366, .int 189 0, .int 0 0, .int 0 0, .int 0 0, .int 0 0, .ref 141, .bool false, .int 181 0, .ref 142, .none, .none, .none, .none, .int 367 0, .int 189 0, sv "/claim/cut.py" 368],
  { cls := .type "frame", slots := #[some (.ref 143), some (.ref 3), some (.ref 140), none, some (sv "cpy313.netrc" 360), none, some (.ref 0)] },
  tu [],
  fi [],
  tu [sv "self" 377, sv "fp" 378],
  tu [],
  { cls := .none, data := Data.func { name := so "__init__", qualname := so "_netrclex.__init__", params := fP 2400, body := FuncBody.stmts (fB 2400), scope := fS 2400, globals := 0, closure := [], defaults := .none, kwdefaults := .none } }]
noncomputable def H1_6 (P : Params) : List Obj := [
  co [sv "__init__" 374, sv "_netrclex.__init__" 375, sv "/claim/cut.py" 376, .int 191 0, .int 2 0, .int 0 0, .int 0 0, .int 3 0, .ref 145, .bool true, .int 181 0, .ref 146, .none, .ref 147, .ref 148, .ref 149, .int 379 0, .int 191 0, sv "/claim/cut.py" 380],
  { cls := .type "function", data := Data.func { name := so "__init__", qualname := so "_netrclex.__init__", params := fP 2400, body := FuncBody.stmts (fB 2400), scope := fS 2400, globals := 3, closure := [], defaults := .none, kwdefaults := .none, pyModule := sv "cpy313.netrc" 360, code := .ref 150 } },
  tu [],
  fi [],
  tu [sv "self" 385, sv "ch" 386],
  tu [],
  { cls := .none, data := Data.func { name := so "_read_char", qualname := so "_netrclex._read_char", params := fP 2401, body := FuncBody.stmts (fB 2401), scope := fS 2401, globals := 0, closure := [], defaults := .none, kwdefaults := .none } },
  co [sv "_read_char" 382, sv "_netrclex._read_char" 383, sv "/claim/cut.py" 384, .int 197 0, .int 1 0, .int 0 0, .int 0 0, .int 3 0, .ref 152, .bool true, .int 181 0, .ref 153, .none, .ref 154, .ref 155, .ref 156, .int 387 0, .int 197 0, sv "/claim/cut.py" 388],
  { cls := .type "function", data := Data.func { name := so "_read_char", qualname := so "_netrclex._read_char", params := fP 2401, body := FuncBody.stmts (fB 2401), scope := fS 2401, globals := 3, closure := [], defaults := .none, kwdefaults := .none, pyModule := sv "cpy313.netrc" 360, code := .ref 157 } },
  tu [],
  fi [],
  tu [sv "self" 393, sv "token" 394, sv "fiter" 395, sv "ch" 396],
  tu [],
  { cls := .none, data := Data.func { name := so "get_token", qualname := so "_netrclex.get_token", params := fP 2402, body := FuncBody.stmts (fB 2402), scope := fS 2402, globals := 0, closure := [], defaults := .none, kwdefaults := .none } },
  co [sv "get_token" 390, sv "_netrclex.get_token" 391, sv "/claim/cut.py" 392, .int 203 0, .int 1 0, .int 0 0, .int 0 0, .int 3 0, .ref 159, .bool true, .int 181 0, .ref 160, .none, .ref 161, .ref 162, .ref 163, .int 397 0, .int 203 0, sv "/claim/cut.py" 398],
  { cls := .type "function", data := Data.func { name := so "get_token", qualname := so "_netrclex.get_token", params := fP 2402, body := FuncBody.stmts (fB 2402), scope := fS 2402, globals := 3, closure := [], defaults := .none, kwdefaults := .none, pyModule := sv "cpy313.netrc" 360, code := .ref 164 } },
  tu [],
  fi [],
  tu [sv "self" 403, sv "token" 404],
  tu [],
  { cls := .none, data := Data.func { name := so "push_token", qualname := so "_netrclex.push_token", params := fP 2403, body := FuncBody.stmts (fB 2403), scope := fS 2403, globals := 0, closure := [], defaults := .none, kwdefaults := .none } },
  co [sv "push_token" 400, sv "_netrclex.push_token" 401, sv "/claim/cut.py" 402, .int 230 0, .int 2 0, .int 0 0, .int 0 0, .int 3 0, .ref 166, .bool true, .int 181 0, .ref 167, .none, .ref 168, .ref 169, .ref 170, .int 405 0, .int 230 0, sv "/claim/cut.py" 406],
  { cls := .type "function", data := Data.func { name := so "push_token", qualname := so "_netrclex.push_token", params := fP 2403, body := FuncBody.stmts (fB 2403), scope := fS 2403, globals := 3, closure := [], defaults := .none, kwdefaults := .none, pyModule := sv "cpy313.netrc" 360, code := .ref 171 } },
  tu [sv "instream" 408, sv "lineno" 409, sv "pushback" 410, sv "whitespace" 411],
  { cls := .type "dict", data := Data.dict #[kv P "__module__" 369 (sv "cpy313.netrc" 360), kv P "__firstlineno__" 373 (.int 189 372), kv P "__init__" 381 (.ref 151), kv P "_read_char" 389 (.ref 158), kv P "get_token" 399 (.ref 165), kv P "push_token" 407 (.ref 172), kv P "__static_attributes__" 412 (.ref 173), kv P "__dict__" 414 (.ref 176), kv P "__weakref__" 416 (.ref 177), kv P "__doc__" 417 (.none)] 4 },
  { cls := .type "type", data := Data.cls { name := so "_netrclex", bases := [.type "object"], mro := [.ref 175, .type "object"], ns := 174, qualname := so "_netrclex" }, slots := #[none, none, some (sv "_netrclex" 362), some (sv "_netrclex" 370), some (.builtin "object.__new__"), some (.bool true)] },
  { cls := .type "getset_descriptor", data := Data.fields #[sv "__dict__" 413, .ref 175, .builtin "function.__dict__", .builtin "function.__dict__#set"] },
  { cls := .type "getset_descriptor", data := Data.fields #[sv "__weakref__" 415, .ref 175, .builtin "ExceptionGroup.__weakref__", .none] },
  { cls := .type "super", data := Data.fields #[.ref 175, .ref 175, .ref 175] },
  { cls := .type "builtin_function_or_method", data := Data.fields #[.builtin "object.__init_subclass__", .ref 175] }]
noncomputable def H1_7 (P : Params) : List Obj := [
  tu [],
  fi [],
  { cls := .none, data := Data.func { name := so "_law_octets", qualname := so "_law_octets", params := fP 25, body := FuncBody.stmts (fB 25), scope := fS 25, globals := 0, closure := [], defaults := .none, kwdefaults := .none } },
  co [sv "_law_octets" 422, sv "_law_octets" 423, sv "/claim/cut.py" 424, .int 233 0, .int 1 0, .int 0 0, .int 0 0, .int 3 0, .ref 180, .bool true, .int 181 0, .ref 181, .none, .none, .none, .ref 182, .int 425 0, .int 233 0, sv "/claim/cut.py" 426],
  { cls := .type "function", data := Data.func { name := so "_law_octets", qualname := so "_law_octets", params := fP 25, body := FuncBody.stmts (fB 25), scope := fS 25, globals := 3, closure := [], defaults := .none, kwdefaults := .none, pyModule := sv "law_oy0121_01" 420, code := .ref 183 } },
  tu [],
  fi [],
  { cls := .none, data := Data.func { name := so "_law_written", qualname := so "_law_written", params := fP 26, body := FuncBody.stmts (fB 26), scope := fS 26, globals := 0, closure := [], defaults := .none, kwdefaults := .none } },
  co [sv "_law_written" 428, sv "_law_written" 429, sv "/claim/cut.py" 430, .int 235 0, .int 2 0, .int 0 0, .int 0 0, .int 3 0, .ref 185, .bool true, .int 181 0, .ref 186, .none, .none, .none, .ref 187, .int 431 0, .int 235 0, sv "/claim/cut.py" 432],
  { cls := .type "function", data := Data.func { name := so "_law_written", qualname := so "_law_written", params := fP 26, body := FuncBody.stmts (fB 26), scope := fS 26, globals := 3, closure := [], defaults := .none, kwdefaults := .none, pyModule := sv "law_oy0121_01" 420, code := .ref 188 } },
  tu [],
  fi [],
  { cls := .none, data := Data.func { name := so "_law_spelled", qualname := so "_law_spelled", params := fP 27, body := FuncBody.stmts (fB 27), scope := fS 27, globals := 0, closure := [], defaults := .none, kwdefaults := .none } },
  co [sv "_law_spelled" 434, sv "_law_spelled" 435, sv "/claim/cut.py" 436, .int 245 0, .int 2 0, .int 0 0, .int 0 0, .int 3 0, .ref 190, .bool true, .int 181 0, .ref 191, .none, .none, .none, .ref 192, .int 437 0, .int 245 0, sv "/claim/cut.py" 438],
  { cls := .type "function", data := Data.func { name := so "_law_spelled", qualname := so "_law_spelled", params := fP 27, body := FuncBody.stmts (fB 27), scope := fS 27, globals := 3, closure := [], defaults := .none, kwdefaults := .none, pyModule := sv "law_oy0121_01" 420, code := .ref 193 } },
  tu [],
  fi [],
  tu [sv "text" 443, sv "read" 444, sv "stream" 445, sv "lexer" 446, sv "words" 447, sv "word" 448],
  tu [sv "signs" 449],
  { cls := .none, data := Data.func { name := so "_law_words", qualname := so "_law_words", params := fP 28, body := FuncBody.stmts (fB 28), scope := fS 28, globals := 0, closure := [], defaults := .none, kwdefaults := .none } },
  co [sv "_law_words" 440, sv "_law_words" 441, sv "/claim/cut.py" 442, .int 250 0, .int 1 0, .int 0 0, .int 0 0, .int 3 0, .ref 195, .bool true, .int 181 0, .ref 196, .none, .ref 197, .ref 198, .ref 199, .int 450 0, .int 250 0, sv "/claim/cut.py" 451],
  { cls := .type "function", data := Data.func { name := so "_law_words", qualname := so "_law_words", params := fP 28, body := FuncBody.stmts (fB 28), scope := fS 28, globals := 3, closure := [], defaults := .none, kwdefaults := .none, pyModule := sv "law_oy0121_01" 420, code := .ref 200 } },
  tu [],
  fi [],
  { cls := .none, data := Data.func { name := so "_law_column", qualname := so "_law_column", params := fP 29, body := FuncBody.stmts (fB 29), scope := fS 29, globals := 0, closure := [], defaults := .none, kwdefaults := .none } },
  co [sv "_law_column" 453, sv "_law_column" 454, sv "/claim/cut.py" 455, .int 264 0, .int 2 0, .int 0 0, .int 0 0, .int 3 0, .ref 202, .bool true, .int 181 0, .ref 203, .none, .none, .none, .ref 204, .int 456 0, .int 264 0, sv "/claim/cut.py" 457],
  { cls := .type "function", data := Data.func { name := so "_law_column", qualname := so "_law_column", params := fP 29, body := FuncBody.stmts (fB 29), scope := fS 29, globals := 3, closure := [], defaults := .none, kwdefaults := .none, pyModule := sv "law_oy0121_01" 420, code := .ref 205 } },
  tu [],
  fi [],
  { cls := .none, data := Data.func { name := so "_law_rings", qualname := so "_law_rings", params := fP 30, body := FuncBody.stmts (fB 30), scope := fS 30, globals := 0, closure := [], defaults := .none, kwdefaults := .none } }]
noncomputable def H1_8 (P : Params) : List Obj := [
  co [sv "_law_rings" 459, sv "_law_rings" 460, sv "/claim/cut.py" 461, .int 271 0, .int 1 0, .int 0 0, .int 0 0, .int 3 0, .ref 207, .bool true, .int 181 0, .ref 208, .none, .none, .none, .ref 209, .int 462 0, .int 271 0, sv "/claim/cut.py" 463],
  { cls := .type "function", data := Data.func { name := so "_law_rings", qualname := so "_law_rings", params := fP 30, body := FuncBody.stmts (fB 30), scope := fS 30, globals := 3, closure := [], defaults := .none, kwdefaults := .none, pyModule := sv "law_oy0121_01" 420, code := .ref 210 } },
  tu [],
  fi [],
  { cls := .none, data := Data.func { name := so "_law_told", qualname := so "_law_told", params := fP 31, body := FuncBody.stmts (fB 31), scope := fS 31, globals := 0, closure := [], defaults := .none, kwdefaults := .none } },
  co [sv "_law_told" 465, sv "_law_told" 466, sv "/claim/cut.py" 467, .int 287 0, .int 2 0, .int 0 0, .int 0 0, .int 3 0, .ref 212, .bool true, .int 181 0, .ref 213, .none, .none, .none, .ref 214, .int 468 0, .int 287 0, sv "/claim/cut.py" 469],
  { cls := .type "function", data := Data.func { name := so "_law_told", qualname := so "_law_told", params := fP 31, body := FuncBody.stmts (fB 31), scope := fS 31, globals := 3, closure := [], defaults := .none, kwdefaults := .none, pyModule := sv "law_oy0121_01" 420, code := .ref 215 } },
  tu [],
  fi [],
  { cls := .none, data := Data.func { name := so "_law_heard", qualname := so "_law_heard", params := fP 32, body := FuncBody.stmts (fB 32), scope := fS 32, globals := 0, closure := [], defaults := .none, kwdefaults := .none } },
  co [sv "_law_heard" 471, sv "_law_heard" 472, sv "/claim/cut.py" 473, .int 295 0, .int 3 0, .int 0 0, .int 0 0, .int 3 0, .ref 217, .bool true, .int 181 0, .ref 218, .none, .none, .none, .ref 219, .int 474 0, .int 295 0, sv "/claim/cut.py" 475],
  { cls := .type "function", data := Data.func { name := so "_law_heard", qualname := so "_law_heard", params := fP 32, body := FuncBody.stmts (fB 32), scope := fS 32, globals := 3, closure := [], defaults := .none, kwdefaults := .none, pyModule := sv "law_oy0121_01" 420, code := .ref 220 } },
  tu [],
  fi [],
  { cls := .none, data := Data.func { name := so "law", qualname := so "law", params := fP 33, body := FuncBody.stmts (fB 33), scope := fS 33, globals := 0, closure := [], defaults := .none, kwdefaults := .none } },
  co [sv "law" 477, sv "law" 478, sv "/claim/cut.py" 479, .int 302 0, .int 1 0, .int 0 0, .int 0 0, .int 3 0, .ref 222, .bool true, .int 181 0, .ref 223, .none, .none, .none, .ref 224, .int 480 0, .int 302 0, sv "/claim/cut.py" 481],
  { cls := .type "function", data := Data.func { name := so "law", qualname := so "law", params := fP 33, body := FuncBody.stmts (fB 33), scope := fS 33, globals := 3, closure := [], defaults := .none, kwdefaults := .none, pyModule := sv "law_oy0121_01" 420, code := .ref 225 } }]
noncomputable def H1 (P : Params) : Heap := { objs := ⟨H1_1 P ++ H1_2 P ++ H1_3 P ++ H1_4 P ++ H1_5 P ++ H1_6 P ++ H1_7 P ++ H1_8 P⟩ }
theorem run0 : ∀ (w : World) (os : OsState), topRun treeTable P0 w 11 (some (.ref 6)) 2756 ⟨boot_heap w.params, Array.mk [], boot_drawn, boot_toks, os⟩ (topStub P0) = some ⟨H1 w.params, Array.mk [], {}, 483, os⟩ := by intro w os; rewrite [Fast.te14082659384304107361, Fast.te14364793385576792824]; kernel_rfl
theorem size0 : ∀ w : World, ((boot_heap w.params).isNs mainGlobals && (Array.mk [] : Array GenState).size == 0, (boot_heap w.params).objs.size, (boot_heap w.params).nsMap mainGlobals "__annotations__") = (true, 11, some (.ref 6)) := by intro w; kernel_rfl
theorem boot0 : ∀ w : World, (fencedOpening treeTable P0 w 2756).map (fun s => (s.heap, s.gens, s.drawn, s.toks)) = some (boot_heap w.params, Array.mk [], boot_drawn, boot_toks) := boot_open (by kernel_rfl) (by rfl) (by intro s; kernel_rfl)
theorem said0 : Challenge.rw_oy0121_01.wellSaid = true := by
  delta OpenLaw.wellSaid OpenRow.wellSaid OpenRow.partSaid looksOpen
  repeat' (with_reducible refine look_both ?_ ?_)
  all_goals ((try rewrite [Fast.te8377067652309620493]); (try rewrite [Fast.te8326940854005059898]); (try rewrite [Fast.te17119622794617984870]); decide +kernel)
local macro_rules | `(tactic| o_law) => `(tactic| refine holds_law said0 fun said => ?_)
local macro_rules | `(tactic| k_head) => `(tactic| (apply cutHead; (case' k => km_head); (case hl => (refine LeftO.of_pieces (H₁ := H1) (M := 2756) boot0 size0 run0 (by rfl) ?_; intro w; kernel_rfl))))
open_top hd for PySem.Challenge.rw_oy0121_01
end Mine
end

section
local macro_rules | `(tactic| omega) => `(tactic| first | lia | omega (splitDisjunctions := true))
section
open PySem PySem.W PySem.Calls PyProof.Rows
set_option Elab.async false
set_option maxRecDepth 100000
namespace Mine
noncomputable abbrev PP : Program := Challenge.rw_oy0121_01.row.prog
noncomputable abbrev AA (dp un : Nat) (fr : Option (List Env)) (gd : Option (List Code)) : Around := { handled := none, depth := dp, frames := fr, guards := gd, units := un }
/-- the ground that every call stands on -/
structure Gd (w : World) (g : Heap) : Prop where
  kin : (hd.heap_1 w.params).In g
  top : ∃ p loose mg mb, TopRead p loose mg mb g
theorem Gd.keeps {w : World} {g h : Heap} (G : Gd w g) (hk : ∀ b o, g.get? b = some o → h.get? b = some o) : Gd w h :=
  ⟨G.kin.keeps hk, let ⟨p, l, mg, mb, T⟩ := G.top; ⟨p, l, mg, mb, T.keeps hk⟩⟩
/-- what a call leaves as it was, but the places of ws -/
noncomputable def KeepBut (ws : List Addr) (h h' : Heap) : Prop := ∀ b o, b ∉ ws → h.get? b = some o → h'.get? b = some o
/-- where a call stands: h₀ is the ground, ws are the things that it may change -/
structure At (w : World) (h₀ : Heap) (s : Shared) (ws : List (Addr × Obj)) : Prop where
  gd : Gd w h₀
  keep : ∀ b o, h₀.get? b = some o → s.heap.get? b = some o
  ws : ∀ p ∈ ws, s.heap.get? p.1 = some p.2 ∧ h₀.get? p.1 = none
theorem At.hide {w : World} {h₀ : Heap} {s : Shared} {ws : List (Addr × Obj)} (H : At w h₀ s ws) : Gd w (hideAll s.heap (ws.map (·.1))) :=
  H.gd.keeps fun b o e => hideAll_get _ (H.keep b o e) fun q => by
    obtain ⟨p, hp, rfl⟩ := List.mem_map.mp q
    rw [(H.ws p hp).2] at e; cases e
theorem enter {w : World} {A : Around} {s : Shared} {h₀ : Heap} {ws : List (Addr × Obj)} {R : Result → Shared → Prop} {name qual : Str} {params : Arguments} {body : List Stmt} {scope : Scope} {dV kV doc pm cdv ct oc : Value} {an od : Option Addr} {osl : Array (Option Value)} {f : Addr} {args : Args} {binds : List (Str × Value)}
    (H : At w h₀ s ws)
    (ho : (hd.heap_1 w.params).lookup f = some ⟨oc, od, .func (fnX name qual params body scope [] dV kV doc pm an cdv ct), osl⟩) (hcd : codeIn (hd.heap_1 w.params) cdv qual = true) (hroom : A.depth < recursionLimit)
    (hbind : BindsTo s (fnX name qual params body scope [] dV kV doc pm an cdv ct) args binds) (hloc : ∀ y ∈ binds, scope.names.lookup y.1 = some .local)
    (h : ∀ p loose mg mb g L' h₁, g = hideAll s.heap (ws.map (·.1)) → (hd.heap_1 w.params).In g → TopRead p loose mg mb g → Fr g L' h₁ (fun y => binds.reverse.lookup y) → News g L' h₁ ws → (∀ p ∈ ws, p.1 < L') →
      wpAny (model PP w) (A.deeper (envX qual scope L' f cdv [])) (execs body (envX qual scope L' f cdv []))
        (fun fl s' => R (.ok (.ret (match fl with | .ret v => v | _ => .none))) s') (fun _ _ => False)
        { s with heap := h₁, toks := s.toks + binds.length })
    (hcell : ∀ x ∈ scope.names, x.2 ≠ .cell) (hco : scope.isCoroutine = false := by rfl) (hgen : scope.isGenerator = false := by rfl) (hk : scope.kind = .function := by rfl) :
    codeAny (model PP w) A (.call (.ref f) args) R s := by
  have G := H.gd.keeps H.keep
  obtain ⟨p, l, mg, mb, T⟩ := G.top
  refine codeAny_call_def (fd := fnX name qual params body scope [] dV kV doc pm an cdv ct) (body := body) (binds := binds) hroom (G.kin _ _ ho) rfl T.nolimit (codeRec_of G.kin hcd) rfl hbind hcell hloc (fun h₁ hns hk₁ => ?_) hco hgen hk
  have G' := H.hide
  obtain ⟨p', l', mg', mb', T'⟩ := G'.top
  refine wpAny_mono (h p' l' mg' mb' _ s.heap.objs.size h₁ rfl G'.kin T' ⟨hns, fun b o e => hk₁ b o (of_hideAll _ e), Nat.le_of_eq (hideAll_size _ _)⟩
    (fun p hp => ⟨hk₁ _ _ (H.ws p hp).1, Nat.ne_of_lt (Heap.lt_size (H.ws p hp).1), hideAll_none _ (List.mem_map_of_mem hp)⟩) (fun p hp => Heap.lt_size (H.ws p hp).1)) (fun _ _ y => y) fun _ _ y => y.elim
theorem enterC {w : World} {A : Around} {s : Shared} {h₀ : Heap} {ws : List (Addr × Obj)} {R : Result → Shared → Prop} {name qual : Str} {params : Arguments} {body : List Stmt} {scope : Scope} {dV kV doc pm cdv ct oc : Value} {an od : Option Addr} {osl : Array (Option Value)} {f : Addr} {args : Args} {binds : List (Str × Value)}
    (H : At w h₀ s ws)
    (ho : (hd.heap_1 w.params).lookup f = some ⟨oc, od, .func (fnX name qual params body scope [] dV kV doc pm an cdv ct), osl⟩) (hcd : codeIn (hd.heap_1 w.params) cdv qual = true) (hroom : A.depth < recursionLimit)
    (hbind : BindsTo s (fnX name qual params body scope [] dV kV doc pm an cdv ct) args binds) (hkind : (binds.all fun y => scope.names.lookup y.1 == some .local || scope.names.lookup y.1 == some .cell) = true)
    (hnd : ((cellsFrom 0 scope.names []).map (·.1)).Nodup)
    (h : ∀ p loose mg mb g L' h₁ tk cells, g = hideAll s.heap (ws.map (·.1)) → (hd.heap_1 w.params).In g → TopRead p loose mg mb g → Fr g L' h₁ (bindL (envOfC qual scope L' f cdv).kindOf binds fun _ => none) → News g L' h₁ (cells ++ ws) →
      CellsAre (bindC (envOfC qual scope L' f cdv).kindOf binds fun _ => none) (cellsFrom (L' + 1) scope.names []) cells → (∀ p ∈ ws, p.1 < L') →
      wpAny (model PP w) (A.deeper (envOfC qual scope L' f cdv)) (execs body (envOfC qual scope L' f cdv))
        (fun fl s' => R (.ok (.ret (match fl with | .ret v => v | _ => .none))) s') (fun _ _ => False)
        { s with heap := h₁, toks := tk })
    (hco : scope.isCoroutine = false := by rfl) (hgen : scope.isGenerator = false := by rfl) (hk : scope.kind = .function := by rfl) :
    codeAny (model PP w) A (.call (.ref f) args) R s := by
  have G := H.gd.keeps H.keep
  obtain ⟨p, l, mg, mb, T⟩ := G.top
  refine codeAny_call_function hroom (G.kin _ _ ho) rfl hco hgen rfl (codeRec_of G.kin hcd) (hbind _ _ _ _ ?_)
  refine wpAny_newFunctionEnv_cells hk (kindsX hkind _) fun env' he s' x => ?_
  subst he
  refine ⟨T.nolimit.keeps x.toInCall.keep, codeAny_func ?_⟩
  obtain ⟨h₁, tk, rfl, _⟩ := x.done
  have hk₁ := x.toInCall.keep
  obtain ⟨cells, NC, Y⟩ := Cl.news (h₀ := s.heap) (Nat.le_refl _) fun n c hm => ⟨x.cell n c (lookup_of_mem_nodup (cellsFrom_names scope.names 0 (s.heap.objs.size + 1) [] [] rfl ▸ hnd) hm), x.above n c hm⟩
  have G' := H.hide
  obtain ⟨p', l', mg', mb', T'⟩ := G'.top
  refine wpAny_mono (h p' l' mg' mb' _ s.heap.objs.size h₁ tk cells rfl G'.kin T' ⟨x.toInCall.ns, fun b o e => hk₁ b o (of_hideAll _ e), Nat.le_of_eq (hideAll_size _ _)⟩ (fun p hp => ?_) Y (fun p hp => Heap.lt_size (H.ws p hp).1)) (fun _ _ y => y) fun _ _ y => y.elim
  rcases List.mem_append.mp hp with hp | hp
  · refine ⟨(NC p hp).1, (NC p hp).2.1, ?_⟩
    cases q : (hideAll s.heap (ws.map (·.1))).get? p.1 with
    | none => rfl
    | some o => have := of_hideAll _ q; rw [(NC p hp).2.2] at this; cases this
  · exact ⟨hk₁ _ _ (H.ws p hp).1, Nat.ne_of_lt (Heap.lt_size (H.ws p hp).1), hideAll_none _ (List.mem_map_of_mem hp)⟩
/-! loops, where nothing is raised -/
section
variable {w : World} {A : Around} {s : Shared} {env : Env} {g : Heap} {L : Addr}
/-- the end of a turn of a while -/
noncomputable def WEnd {σ : Type} (g : Heap) (L : Addr) (ps : σ → List (Str × Value)) (Led : σ → List (Addr × Obj)) (P : σ → Prop) (μ : σ → Nat) (s : Shared) (c : σ) (s₂ : Shared) : Prop :=
  ∃ c' m' h' tk', s₂ = { s with heap := h', toks := tk' } ∧ Fr g L h' m' ∧ (∀ p ∈ ps c', m' p.1 = some p.2) ∧ News g L h' (Led c') ∧ P c' ∧ μ c' < μ c
noncomputable def WPost {σ : Type} (g : Heap) (L : Addr) (ps : σ → List (Str × Value)) (Led : σ → List (Addr × Obj)) (P : σ → Prop) (μ : σ → Nat) (s : Shared) (c : σ) (Q : Flow → Shared → Prop) (f : Flow) (s₂ : Shared) : Prop :=
  match f with
  | .ret v => Q (.ret v) s₂
  | .brk => Q .next s₂
  | _ => WEnd g L ps Led P μ s c s₂
theorem kstB_self {m : Str → Option Value} {ps : List (Str × Value)} (h : ∀ p ∈ ps, m p.1 = some p.2) : kstB m ps = m := by
  funext z
  exact kstB_eq h fun _ => rfl
theorem while_st {σ : Type} {test : Expr} {body : List Stmt} {pos : Pos} {m₀ : Str → Option Value} {Q : Flow → Shared → Prop} (ps : σ → List (Str × Value)) (Led : σ → List (Addr × Obj)) (P : σ → Prop) (μ : σ → Nat) (c₀ : σ)
    (F : Fr g L s.heap m₀) (hps : ∀ p ∈ ps c₀, m₀ p.1 = some p.2) (N : News g L s.heap (Led c₀)) (hP : P c₀)
    (turn : ∀ c u h tk, P c → Fr g L h (kstB u (ps c)) → News g L h (Led c) →
      wpAny (model PP w) A (isTrue test env (eval test env)) (fun b s₁ => if b = true then wpAny (model PP w) A (execs body env) (WPost g L ps Led P μ s c Q) (fun _ _ => False) s₁ else Q .next s₁) (fun _ _ => False) { s with heap := h, toks := tk }) :
    wpAny (model PP w) A (exec (.While test body [] pos) env) Q (fun _ _ => False) s := by
  refine wpAny_While (codeAny_whileLoop (fun n s₁ => ∃ c u h tk, s₁ = { s with heap := h, toks := tk } ∧ P c ∧ Fr g L h (kstB u (ps c)) ∧ News g L h (Led c) ∧ n = μ c) ?_ (μ c₀)
    ⟨c₀, m₀, s.heap, s.toks, rfl, hP, by rw [kstB_self hps]; exact F, N, rfl⟩)
  rintro n s₁ ⟨c, u, h, tk, rfl, hP', F', N', rfl⟩
  refine wpAny_mono (turn c u h tk hP' F' N') (fun b s₂ hb => ?_) fun _ _ x => x.elim
  cases b with
  | false =>
    simp only [Bool.false_eq_true, if_false] at hb ⊢
    exact wpAny_execs_nil hb
  | true =>
    simp only [if_true] at hb ⊢
    refine wpAny_mono hb (fun f s₃ hf => ?_) fun _ _ x => x.elim
    have up : WEnd g L ps Led P μ s c s₃ → ∃ m, m < μ c ∧ ∃ c u h tk, s₃ = { s with heap := h, toks := tk } ∧ P c ∧ Fr g L h (kstB u (ps c)) ∧ News g L h (Led c) ∧ m = μ c := by
      rintro ⟨c', m', h', tk', rfl, F₃, hp₃, N₃, hP₃, hlt⟩
      exact ⟨μ c', hlt, c', m', h', tk', rfl, hP₃, by rw [kstB_self hp₃]; exact F₃, N₃, rfl⟩
    cases f with
    | ret v => exact hf
    | brk => exact hf
    | next => exact up hf
    | cont => exact up hf
end
section
variable {w : World} {A : Around} {E : Value → Shared → Prop} {s : Shared} {g : Heap} {L : Addr} {m : Str → Option Value} {news news' : List (Addr × Obj)}
theorem item_ {value slice : PySem.Expr} {l : Addr} {its : List Value} {n : Nat} {k : Int} {u : Tok} {v : Value} {Q : Value → Shared → Prop} (N : News g L s.heap news) (hm : (l, listOf its.toArray n) ∈ news)
    (h0 : 0 ≤ k) (hx : its[k.toNat]? = some v) (hlen : its.length < 2 ^ 60) (h : Q v s)
    (hs : subscripted slice false (.ref l) (.int k u) = operate [.ref l, .int k u] (getItem (.ref l) (.int k u)) := by with_unfolding_all rfl) (hg : ∀ r, letTemporaryGo value (.ref l) r = pure () := by intro _; with_unfolding_all rfl) :
    wpAny (model PP w) A (subscriptTail value slice (.ref l) (.int k u)) Q E s :=
  kim_list N hm rfl rfl h0 (by have := (List.getElem?_eq_some_iff.mp hx).1; omega) hx h hs hg
theorem setItem_ {l : Addr} {its : List Value} {n : Nat} {k : Int} {t : Tok} {v : Value} {Q : Unit → Shared → Prop} (F : Fr g L s.heap m) (N : News g L s.heap news) (U : Upd l (listOf its.toArray n) (listOf (its.set k.toNat v).toArray n) news news')
    (h0 : 0 ≤ k) (h1 : k < its.length) (hlen : its.length < 2 ^ 60)
    (h : ∀ h', Fr g L h' m → News g L h' news' → Q () { s with heap := h' }) :
    wpAny (model PP w) A (setItem (.ref l) (.int k t) v) Q E s := by
  obtain ⟨pre, post, rfl, rfl, a, b⟩ := U.split
  have z := N (l, listOf its.toArray n) (List.mem_append.mpr (.inr (.head _)))
  refine ki_setAt z.1 h0 (by omega) (by rw [List.size_toArray]; omega) (h _ (F.change (Heap.SameBut.update ..) z.2.1 z.2.2) (ki_turn _ N a b ?_ ?_))
  · show its.toArray.setIfInBounds k.toNat v = (its.set k.toNat v).toArray
    apply Array.toList_inj.mp
    simp
  · simp
end
theorem len_ {w : World} {A : Around} {E : Value → Shared → Prop} {s : Shared} {g : Heap} {L : Addr} {news : List (Addr × Obj)} {l : Addr} {its : List Value} {n : Nat} {Q : Value → Shared → Prop} (N : News g L s.heap news) (hm : (l, listOf its.toArray n) ∈ news)
    (hlen : its.length < 2 ^ 60) (h : ∀ t tk, Q (.int (its.length : Int) t) { s with toks := tk }) : wpAny (model PP w) A (call (.builtin "len") [.ref l]) Q E s :=
  len_list (News.isList N hm) (by rw [List.size_toArray]; omega) (by rw [List.size_toArray]; exact h _ _)
theorem pop_ {w : World} {A : Around} {E : Value → Shared → Prop} {s : Shared} {g : Heap} {L : Addr} {m : Str → Option Value} {news news' : List (Addr × Obj)} {l : Addr} {its : List Value} {y : Value} {n : Nat} {Q : Value → Shared → Prop} (F : Fr g L s.heap m) (N : News g L s.heap news)
    (U : Upd l (listOf (its ++ [y]).toArray n) (listOf its.toArray (n + 1)) news news') (hlen : its.length < 2 ^ 20) (h : ∀ h', Fr g L h' m → News g L h' news' → Q y { s with heap := h' }) : wpAny (model PP w) A (call (.builtin "list.pop") [.ref l]) Q E s :=
  kl_pop F N (by simpa using kpa_last y its) U (by rw [sizeLine_eq]; simp; omega) h
theorem at_of {w : World} {g : Heap} {L : Addr} {s : Shared} {m : Str → Option Value} {news ws : List (Addr × Obj)} {p : Program} {loose : List Str} {mg mb : Str → Option Value}
    (X : (hd.heap_1 w.params).In g) (T : TopRead p loose mg mb g) (F : Fr g L s.heap m) (N : News g L s.heap news) (hs : ∀ q ∈ ws, q ∈ news) : At w g s ws :=
  ⟨⟨X, p, loose, mg, mb, T⟩, F.keep, fun q hq => ⟨(N q (hs q hq)).1, (N q (hs q hq)).2.2⟩⟩
theorem fr_after {g : Heap} {L : Addr} {h h' : Heap} {m : Str → Option Value} {ws : List Addr} (F : Fr g L h m) (K : KeepBut ws h h') (hL : L ∉ ws) (hg : ∀ a ∈ ws, g.get? a = none) : Fr g L h' m :=
  ⟨F.ns.at' fun o e => K L o hL e, fun b o e => K b o (fun hb => by rw [hg b hb] at e; cases e) (F.keep b o e), F.above⟩
theorem news_after {g : Heap} {L : Addr} {h h' : Heap} {news : List (Addr × Obj)} {ws : List Addr} (N : News g L h news) (K : KeepBut ws h h') (hn : ∀ p ∈ news, p.1 ∉ ws) : News g L h' news :=
  fun p hp => ⟨K _ _ (hn p hp) (N p hp).1, (N p hp).2⟩
theorem news_one {g : Heap} {L : Addr} {h' : Heap} {a : Addr} {o : Obj} (e : h'.get? a = some o) (hL : a ≠ L) (hg : g.get? a = none) : News g L h' [(a, o)] := by
  intro p hp
  rw [List.mem_singleton.mp hp]
  exact ⟨e, hL, hg⟩
theorem news_app {g : Heap} {L : Addr} {h' : Heap} {n1 n2 : List (Addr × Obj)} (N1 : News g L h' n1) (N2 : News g L h' n2) : News g L h' (n1 ++ n2) :=
  fun p hp => (List.mem_append.mp hp).elim (N1 p) (N2 p)
/-- the end of a turn of a for -/
noncomputable def FEnd {σ : Type} (g : Heap) (L : Addr) (ps : σ → List (Str × Value)) (Led : σ → List (Addr × Obj)) (P : σ → Prop) (own : List (Addr × Obj)) (s : Shared) (s₂ : Shared) : Prop :=
  ∃ c' m' h' tk' news', s₂ = { s with heap := h', toks := tk' } ∧ Fr g L h' m' ∧ (∀ p ∈ ps c', m' p.1 = some p.2) ∧ News g L h' news' ∧ (∀ p ∈ Led c', p ∈ news') ∧ (∀ p ∈ own, p ∈ news') ∧ P c'
noncomputable def FPost {σ : Type} (g : Heap) (L : Addr) (ps : σ → List (Str × Value)) (Led : σ → List (Addr × Obj)) (P : σ → Prop) (own : List (Addr × Obj)) (s : Shared) (Q : Flow → Shared → Prop) (f : Flow) (s₂ : Shared) : Prop :=
  match f with
  | .ret v => Q (.ret v) s₂
  | .brk => Q .next s₂
  | _ => FEnd g L ps Led P own s s₂
section
variable {w : World} {A : Around} {s : Shared} {env : Env} {g : Heap} {L : Addr}
theorem forLoop_st {σ : Type} {x : Str} {px : Pos} {body : List Stmt} {I : Addr} {fp wr : List Addr} {n : Nat} {Pv : Nat → Value → Prop} {St : Nat → Heap → Prop} {m₀ : Str → Option Value} {Q : Flow → Shared → Prop}
    (W : Walks PP w A I fp wr n Pv St) (ps : Nat → σ → List (Str × Value)) (Led : Nat → σ → List (Addr × Obj)) (P : Nat → σ → Prop) (c₀ : σ)
    (hIf : I ∈ fp) (hI₀ : g.get? I = none) (hIo : ∀ i h, St i h → ∃ o, h.get? I = some o)
    (hLf : L ∉ fp) (hwr : ∀ b ∈ wr, g.get? b = none) (hled : ∀ i c, P i c → ∀ p ∈ Led i c, p.1 ∉ fp)
    (hst : St 0 s.heap) (F : Fr g L s.heap m₀) (hps : ∀ p ∈ ps 0 c₀, m₀ p.1 = some p.2) (N : News g L s.heap (Led 0 c₀)) (hP : P 0 c₀)
    (turn : ∀ i c v u h tk own, i < n → Pv i v → P i c → (∀ q ∈ own, q.1 ∈ fp) → (∃ o, (I, o) ∈ own) → Fr g L h (kstB u (ps i c)) → News g L h (Led i c ++ own) →
      wpAny (model PP w) A (assign (.Name x px) env v) (fun _ s₂ => wpAny (model PP w) A (execs body env) (FPost g L (ps (i + 1)) (Led (i + 1)) (P (i + 1)) own s Q) (fun _ _ => False) s₂) (fun _ _ => False) { s with heap := h, toks := tk })
    (done : ∀ c u h tk, P n c → Fr g L h (kstB u (ps n c)) → News g L h (Led n c) → Q .next { s with heap := h, toks := tk }) :
    codeAny (model PP w) A (.forLoop (.Name x px) (.ref I) body [] env) (fun r s' => match r with | .ok f => Q f s' | .error e => cameBackBy (model PP w) A env (fun _ _ => False) e s') s := by
  have hLw : L ∉ wr := fun h => hLf (W.sub _ h)
  have old : ∀ b o, g.get? b = some o → b ∉ wr := fun b o e hb => by rw [hwr b hb] at e; cases e
  refine codeAny_forLoop
    (fun k s' => ∃ c u h' tk i, s' = { s with heap := h', toks := tk } ∧ St i h' ∧ Fr g L h' (kstB u (ps i c)) ∧ News g L h' (Led i c) ∧ P i c ∧ i ≤ n ∧ k = n + 1 - i) ?_ (n + 1)
    ⟨c₀, m₀, s.heap, s.toks, 0, rfl, hst, by rw [kstB_self hps]; exact F, N, hP, Nat.zero_le _, rfl⟩
  rintro k s' ⟨c, u, h', tk, i, rfl, hst', F', N', hP', hi, rfl⟩
  have nw : ∀ p ∈ Led i c, p.1 ∉ wr := fun p hp h => hled i c hP' p hp (W.sub _ h)
  have next : ∀ h₁ : Heap, (∀ b o, b ∉ wr → h'.get? b = some o → h₁.get? b = some o) → Fr g L h₁ (kstB u (ps i c)) ∧ News g L h₁ (Led i c) := fun h₁ hk₁ =>
    ⟨⟨F'.ns.at' fun o e => hk₁ _ o hLw e, fun b o e => hk₁ b o (old b o e) (F'.keep b o e), F'.above⟩, fun p hp => ⟨hk₁ _ _ (nw p hp) (N' p hp).1, (N' p hp).2⟩⟩
  by_cases hlt : i < n
  · refine W.item i _ _ _ hlt hst' fun v h₁ tk₁ hv hst₁ hk₁ => ?_
    obtain ⟨F₁, N₁⟩ := next h₁ hk₁
    have Nown : News g L h₁ (ownOf g fp h₁) := news_ownOf hLf
    refine wpAny_mono (turn i c v u h₁ tk₁ (ownOf g fp h₁) hlt hv hP' ownOf_sub (let ⟨o, ho⟩ := hIo _ _ hst₁; ⟨o, mem_ownOf hIf hI₀ ho⟩) F₁ (news_app N₁ Nown)) (fun _ s₂ h₂ => wpAny_mono h₂ (fun f s₃ h₃ => ?_) fun _ _ x => x.elim) fun _ _ x => x.elim
    have up : FEnd g L (ps (i + 1)) (Led (i + 1)) (P (i + 1)) (ownOf g fp h₁) s s₃ → ∃ m, m < n + 1 - i ∧ ∃ c u h' tk i, s₃ = { s with heap := h', toks := tk } ∧ St i h' ∧ Fr g L h' (kstB u (ps i c)) ∧ News g L h' (Led i c) ∧ P i c ∧ i ≤ n ∧ m = n + 1 - i := by
      rintro ⟨c', m', h₃', tk₃, news', rfl, F₃, hp₃, N₃, hl₃, ho₃, hP₃⟩
      refine ⟨n + 1 - (i + 1), by omega, c', m', h₃', tk₃, i + 1, rfl, ?_, by rw [kstB_self hp₃]; exact F₃, fun p hp => N₃ p (hl₃ p hp), hP₃, hlt, rfl⟩
      refine W.frame _ _ _ hst₁ fun b hb o e => ?_
      cases hn : g.get? b with
      | some o₀ =>
        have : o₀ = o := by have := F₁.keep b o₀ hn; rw [e] at this; exact (Option.some.inj this).symm
        exact this ▸ F₃.keep b o₀ hn
      | none => exact (N₃ _ (ho₃ _ (mem_ownOf hb hn e))).1
    cases f with
    | ret v => exact h₃
    | brk => exact h₃
    | cont => exact up h₃
    | next => exact up h₃
  · have hin : i = n := by omega
    subst hin
    refine W.done _ _ _ hst' fun h₁ tk₁ hk₁ => wpAny_execs_nil ?_
    obtain ⟨F₁, N₁⟩ := next h₁ hk₁
    exact done c u h₁ tk₁ hP' F₁ N₁
end
/-- the turns of a comprehension, by what holds between them -/
theorem compRest_of {w : World} {A : Around} {g : Heap} {L : Addr} {m : Str → Option Value} {env : Env} {elt : Expr} {x : Str} {scope : Scope} {cl : List (Str × Addr)} {s : Shared} {S : List (Addr × Obj) → Prop} {Pv : Nat → Value → Prop}
    {Fin : List Value → List (Addr × Obj) → Prop} {n : Nat} {news : List (Addr × Obj)} (Inv : Nat → List Value → List (Addr × Obj) → Prop) (h0 : Inv 0 [] news)
    (step : ∀ i ys news v I oI C oC D m₂ h tk (E' : Value → Shared → Prop), i < n → Inv i ys news → Pv i v → LCg.NsObj oC m₂ → m₂ x = some v → Fr g L h m → News g L h ((I, oI) :: (C, oC) :: (D, LCg.lst ys) :: news) → LCg.Off3 I C D news → ((@Ne Nat I C) ∧ (@Ne Nat I D) ∧ (@Ne Nat C D)) →
      wpAny (model PP w) A (eval elt (compEnvC scope cl C env)) (LCg.CompEnd g L m { s with heap := h, toks := tk } I oI C oC D (LCg.lst ys) S (fun y news' => Inv (i + 1) (ys ++ [y]) news')) E' { s with heap := h, toks := tk })
    (fin : ∀ ys news, Inv n ys news → Fin ys news) : LCg.CompRest PP w A g L m env elt x scope cl s S Pv Fin n 0 [] news := by
  have all : ∀ k i ys news, i + k = n → Inv i ys news → LCg.CompRest PP w A g L m env elt x scope cl s S Pv Fin k i ys news := by
    intro k
    induction k with
    | zero => intro i ys news e hi; rw [Nat.add_zero] at e; subst e; exact fin ys news hi
    | succ k ih =>
      intro i ys news e hi
      refine LCg.CompRest.succ ?_
      intro v I oI C oC D m₂ h tk E' hv ho hx F N off ne
      refine wpAny_mono (step i ys news v I oI C oC D m₂ h tk E' (by omega) hi hv ho hx F N off ne) (fun y s₂ hy => ?_) fun _ _ z => z
      obtain ⟨h', tk', news', e', F', N', off', hS, r⟩ := hy
      exact ⟨h', tk', news', e', F', N', off', hS, ih (i + 1) (ys ++ [y]) news' (by omega) r⟩
  exact all n 0 [] news (by omega) h0
theorem for_range {σ : Type} {w : World} {A : Around} {s : Shared} {env : Env} {g : Heap} {L : Addr} {x : Str} {px : Pos} {body : List Stmt} {r : Addr} {n : Nat} {t₁ u₁ v₁ : Tok} {m₀ : Str → Option Value} {Q : Flow → Shared → Prop} (hh : A.handled = none)
    (hr : IsRange s.heap r 0 (n : Int) 1 t₁ u₁ v₁) (hn : n < 2 ^ 60) (ps : Nat → σ → List (Str × Value)) (Led : Nat → σ → List (Addr × Obj)) (P : Nat → σ → Prop) (c₀ : σ)
    (hled : ∀ i c, P i c → ∀ p ∈ Led i c, p.1 ≠ s.heap.objs.size)
    (F : Fr g L s.heap m₀) (hps : ∀ p ∈ ps 0 c₀, m₀ p.1 = some p.2) (N : News g L s.heap (Led 0 c₀)) (hP : P 0 c₀)
    (turn : ∀ i c t u h tk own, i < n → P i c → (∀ q ∈ own, q.1 = s.heap.objs.size) → (∃ o, (s.heap.objs.size, o) ∈ own) → Fr g L h (kstB u (ps i c)) → News g L h (Led i c ++ own) →
      wpAny (model PP w) A (assign (.Name x px) env (.int (i : Int) t)) (fun _ s₂ => wpAny (model PP w) A (execs body env) (FPost g L (ps (i + 1)) (Led (i + 1)) (P (i + 1)) own s Q) (fun _ _ => False) s₂) (fun _ _ => False) { s with heap := h, toks := tk })
    (done : ∀ c u h tk, P n c → Fr g L h (kstB u (ps n c)) → News g L h (Led n c) → Q .next { s with heap := h, toks := tk }) :
    wpAny (model PP w) A (pyIter (.ref r)) (fun it s₂ => codeAny (model PP w) A (.forLoop (.Name x px) it body [] env) (fun r s' => match r with | .ok f => Q f s' | .error e => cameBackBy (model PP w) A env (fun _ _ => False) e s') s₂) (fun _ _ => False) s := by
  have hz : Builtin.Range.rangeSize 0 (n : Int) 1 = (n : Int) := by
    unfold Builtin.Range.rangeSize
    simp only [show (1 : Int) > 0 by decide, if_true]
    split <;> omega
  have hsm : Builtin.Range.small 0 (n : Int) 1 = true := by
    unfold Builtin.Range.small
    rw [hz]
    rw [if_pos (show (1 : Int) > 0 by decide)]
    unfold Builtin.Range.rangeFitsLong
    simp only [Bool.and_eq_true, Bool.or_eq_true, decide_eq_true_eq, beq_iff_eq]
    omega
  refine wpAny_pyIter_range hr hsm ?_
  have W := Walks.range (prog := PP) (w := w) (A := A) hh s.heap.objs.size 0 1 n
  refine forLoop_st W ps Led P c₀ (.head _) (next_is_new F) (fun i h st => ⟨_, st⟩) ?_ ?_ ?_ ?_ (F.push _) hps (N.grown fun _ _ e => Heap.get?_push_of_some _ e) hP ?_ ?_
  · exact fun hm => Nat.ne_of_lt F.ns.lt (List.mem_singleton.mp hm)
  · intro b hb; rw [List.mem_singleton.mp hb]; exact next_is_new F
  · exact fun i c hc p hp hm => hled i c hc p hp (List.mem_singleton.mp hm)
  · show IsRangeIter _ _ _ _ _
    rw [hz, show (0 : Int) + ((0 : Nat) : Int) * 1 = 0 by omega, show (n : Int) - ((0 : Nat) : Int) = (n : Int) by omega]
    exact Heap.get?_push_size _ rfl
  · rintro i c v u h tk own hi ⟨t, rfl⟩ hc hown hI F' N'
    rw [show (0 : Int) + (i : Int) * 1 = (i : Int) by omega]
    exact turn i c t u h tk own hi hc (fun q hq => List.mem_singleton.mp (hown q hq)) hI F' N'
  · intro c u h tk hc F' N'
    exact done c u h tk hc F' N'
theorem for_list {σ : Type} {w : World} {A : Around} {s : Shared} {env : Env} {g : Heap} {L : Addr} {x : Str} {px : Pos} {body : List Stmt} {l : Addr} {vs : List Value} {m₀ : Str → Option Value} {Q : Flow → Shared → Prop} (hh : A.handled = none)
    (hl : g.IsList l vs.toArray) (ps : Nat → σ → List (Str × Value)) (Led : Nat → σ → List (Addr × Obj)) (P : Nat → σ → Prop) (c₀ : σ)
    (hled : ∀ i c, P i c → ∀ p ∈ Led i c, p.1 ≠ s.heap.objs.size ∧ p.1 ≠ l)
    (F : Fr g L s.heap m₀) (hps : ∀ p ∈ ps 0 c₀, m₀ p.1 = some p.2) (N : News g L s.heap (Led 0 c₀)) (hP : P 0 c₀)
    (turn : ∀ i c v u h tk own, vs[i]? = some v → P i c → (∀ q ∈ own, q.1 = s.heap.objs.size) → (∃ o, (s.heap.objs.size, o) ∈ own) → Fr g L h (kstB u (ps i c)) → News g L h (Led i c ++ own) →
      wpAny (model PP w) A (assign (.Name x px) env v) (fun _ s₂ => wpAny (model PP w) A (execs body env) (FPost g L (ps (i + 1)) (Led (i + 1)) (P (i + 1)) own s Q) (fun _ _ => False) s₂) (fun _ _ => False) { s with heap := h, toks := tk })
    (done : ∀ c u h tk, P vs.length c → Fr g L h (kstB u (ps vs.length c)) → News g L h (Led vs.length c) → Q .next { s with heap := h, toks := tk }) :
    wpAny (model PP w) A (pyIter (.ref l)) (fun it s₂ => codeAny (model PP w) A (.forLoop (.Name x px) it body [] env) (fun r s' => match r with | .ok f => Q f s' | .error e => cameBackBy (model PP w) A env (fun _ _ => False) e s') s₂) (fun _ _ => False) s := by
  have hls : s.heap.IsList l vs.toArray := hl.at fun o e => F.keep l o e
  obtain ⟨ol, hol, _⟩ := id hl
  have hlI : l ≠ s.heap.objs.size := Nat.ne_of_lt (Heap.lt_size (F.keep _ _ hol))
  refine wpAny_pyIter_list hls ?_
  have W := Walks.list (prog := PP) (w := w) (A := A) hh s.heap.objs.size l hlI vs.toArray
  rw [List.size_toArray] at W
  refine forLoop_st W ps Led P c₀ (.head _) (next_is_new F) (fun i h st => by obtain ⟨o, e, _⟩ := st.1; exact ⟨o, e⟩) ?_ ?_ ?_ ?_ (F.push _) hps (N.grown fun _ _ e => Heap.get?_push_of_some _ e) hP ?_ ?_
  · simp only [List.mem_cons, List.not_mem_nil, or_false, not_or]
    exact ⟨Nat.ne_of_lt F.ns.lt, fun e => absurd (Nat.lt_of_lt_of_le (Heap.lt_size hol) F.above) (e ▸ Nat.lt_irrefl _)⟩
  · intro b hb; rw [List.mem_singleton.mp hb]; exact next_is_new F
  · intro i c hc p hp; simp only [List.mem_cons, List.not_mem_nil, or_false, not_or]; exact hled i c hc p hp
  · exact ⟨⟨_, Heap.get?_push_size _ rfl, rfl, rfl⟩, hls.push _⟩
  · rintro i c v u h tk own hi hv hc hown hI F' N'
    refine turn i c v u h tk own (by simpa using hv) hc (fun q hq => ?_) hI F' N'
    have := hown q hq
    simp only [List.mem_cons, List.not_mem_nil, or_false] at this
    rcases this with e | e
    · exact e
    · have z := (N' q (List.mem_append_right _ hq)).2.2
      rw [e, hol] at z; cases z
  · intro c u h tk hc F' N'
    exact done c u h tk hc F' N'
section
variable {w : World} {A : Around} {E : Value → Shared → Prop} {s : Shared} {g : Heap} {L : Addr} {m : Str → Option Value} {news : List (Addr × Obj)} {value slice : PySem.Expr} {r : List UInt8} {t : Tok} {Q : Value → Shared → Prop}
theorem picked_from (r : List UInt8) (k : Nat) : KBy.picked r.toArray (some (k : Int)) none = (r.drop k).toArray := by
  rw [KBc.picked_eq]
  simp only [Option.elim, clipAt_nat, List.size_toArray]
  congr 1
  rw [List.take_of_length_le (by simp)]
  rcases Nat.le_total k r.length with h | h
  · rw [Nat.min_eq_left h]
  · rw [Nat.min_eq_right h, List.drop_length, List.drop_eq_nil_of_le h]
theorem picked_to (r : List UInt8) (k : Nat) : KBy.picked r.toArray none (some (k : Int)) = (r.take k).toArray := by
  rw [KBc.picked_eq]
  simp only [Option.elim, clipAt_nat, List.size_toArray, List.drop_zero, Nat.sub_zero]
  congr 1
  rcases Nat.le_total k r.length with h | h
  · rw [Nat.min_eq_left h]
  · rw [Nat.min_eq_right h, List.take_length, List.take_of_length_le h]
theorem picked_mid (r : List UInt8) (j k : Nat) : KBy.picked r.toArray (some (j : Int)) (some (k : Int)) = ((r.take k).drop j).toArray := by
  rw [KBc.picked_eq]
  simp only [Option.elim, clipAt_nat, List.size_toArray]
  congr 1
  rw [List.drop_take]
  rcases Nat.le_total j r.length with h | h
  · rw [Nat.min_eq_left h]
    rcases Nat.le_total k r.length with h' | h'
    · rw [Nat.min_eq_left h']
    · rw [Nat.min_eq_right h', List.take_of_length_le (by simp), List.take_of_length_le (by simp; omega)]
  · rw [Nat.min_eq_right h, List.drop_length, List.drop_eq_nil_of_le h]; simp
theorem bcut_from {k : Nat} {tk : Tok} (F : Fr g L s.heap m) (N : News g L s.heap news) (hz : r.length ≤ 16777216)
    (h : ∀ h' t' k', Fr g L h' m → News g L h' news → Q (.bytes (r.drop k).toArray t') { s with heap := h', toks := k' })
    (hs : subscripted slice false (.bytes r.toArray t) (.ref s.heap.objs.size) = operate [.ref s.heap.objs.size, .bytes r.toArray t] (getItem (.bytes r.toArray t) (.ref s.heap.objs.size)) := by with_unfolding_all rfl)
    (ht : ∀ v, letTemporaryGo value (.bytes r.toArray t) v = pure () := by intro _; with_unfolding_all rfl) :
    wpAny (model PP w) A (subscriptTail value slice (.bytes r.toArray t) (.ref s.heap.objs.size)) Q E { s with heap := s.heap.push { cls := .type "slice", data := .fields #[.int (k : Int) tk, .none, .none] } } :=
  KBc.slice_K F N rfl (.int _ _) .none (by rw [KBw.ints_length]; simpa using hz) (fun h' t' k' F' N' _ => by rw [picked_from]; exact h h' t' k' F' N') hs ht
theorem bcut_to {k : Nat} {tk : Tok} (F : Fr g L s.heap m) (N : News g L s.heap news) (hz : r.length ≤ 16777216)
    (h : ∀ h' t' k', Fr g L h' m → News g L h' news → Q (.bytes (r.take k).toArray t') { s with heap := h', toks := k' })
    (hs : subscripted slice false (.bytes r.toArray t) (.ref s.heap.objs.size) = operate [.ref s.heap.objs.size, .bytes r.toArray t] (getItem (.bytes r.toArray t) (.ref s.heap.objs.size)) := by with_unfolding_all rfl)
    (ht : ∀ v, letTemporaryGo value (.bytes r.toArray t) v = pure () := by intro _; with_unfolding_all rfl) :
    wpAny (model PP w) A (subscriptTail value slice (.bytes r.toArray t) (.ref s.heap.objs.size)) Q E { s with heap := s.heap.push { cls := .type "slice", data := .fields #[.none, .int (k : Int) tk, .none] } } :=
  KBc.slice_K F N rfl .none (.int _ _) (by rw [KBw.ints_length]; simpa using hz) (fun h' t' k' F' N' _ => by rw [picked_to]; exact h h' t' k' F' N') hs ht
theorem bcut_mid {j k : Nat} {tj tk : Tok} (F : Fr g L s.heap m) (N : News g L s.heap news) (hz : r.length ≤ 16777216)
    (h : ∀ h' t' k', Fr g L h' m → News g L h' news → Q (.bytes ((r.take k).drop j).toArray t') { s with heap := h', toks := k' })
    (hs : subscripted slice false (.bytes r.toArray t) (.ref s.heap.objs.size) = operate [.ref s.heap.objs.size, .bytes r.toArray t] (getItem (.bytes r.toArray t) (.ref s.heap.objs.size)) := by with_unfolding_all rfl)
    (ht : ∀ v, letTemporaryGo value (.bytes r.toArray t) v = pure () := by intro _; with_unfolding_all rfl) :
    wpAny (model PP w) A (subscriptTail value slice (.bytes r.toArray t) (.ref s.heap.objs.size)) Q E { s with heap := s.heap.push { cls := .type "slice", data := .fields #[.int (j : Int) tj, .int (k : Int) tk, .none] } } :=
  KBc.slice_K F N rfl (.int _ _) (.int _ _) (by rw [KBw.ints_length]; simpa using hz) (fun h' t' k' F' N' _ => by rw [picked_mid]; exact h h' t' k' F' N') hs ht
theorem badd {r' : List UInt8} {t' : Tok} (hz : r.length + r'.length ≤ 16777216) (h : ∀ t k, Q (.bytes (r ++ r').toArray t) { s with toks := k }) : wpAny (model PP w) A (binaryOp .Add (.bytes r.toArray t) (.bytes r'.toArray t')) Q E s :=
  KBy.add_bytes (by simpa using hz) (fun t k => by rw [List.append_toArray]; exact h t k)
/-- an octet at any place, as Python counts -/
theorem bitem {i : Int} {ui : Tok} (hz : r.length ≤ 1000000) (hne : r ≠ []) (h0 : -1 ≤ i) (h1 : i < (r.length : Int))
    (h : ∀ t' k, Q (.int ((r.getD ((i + r.length) % r.length).toNat 0).toNat : Int) t') { s with toks := k })
    (hs : subscripted slice false (.bytes r.toArray t) (.int i ui) = operate [.bytes r.toArray t, .int i ui] (getItem (.bytes r.toArray t) (.int i ui)) := by with_unfolding_all rfl)
    (ht : ∀ v, letTemporaryGo value (.bytes r.toArray t) v = pure () := by intro _; with_unfolding_all rfl) :
    wpAny (model PP w) A (subscriptTail value slice (.bytes r.toArray t) (.int i ui)) Q E s := by
  have hpos : 0 < r.length := List.length_pos_iff.mpr hne
  rcases Int.lt_or_le i 0 with hi | hi
  · refine KBc.itemR_K rfl (by rw [KBw.ints_length]; simp; omega) (by rw [KBw.ints_length]; simp; omega) hi (fun t' k _ _ => ?_) hs ht
    have := h t' k
    rw [KBw.ints_length]
    rw [show (i + (r.length : Int)) % (r.length : Int) = i + r.length from Int.emod_eq_of_lt (by omega) (by omega)] at this
    simpa [KBw.bInts, List.getD_eq_getElem?_getD, show (i + (r.length : Int)).toNat < r.length by omega] using this
  · refine KBy.item_N (by omega) hi h1 ?_ hs ht
    have := h s.toks (s.toks + 1)
    rw [show (i + (r.length : Int)) % (r.length : Int) = i by rw [Int.add_emod_right]; exact Int.emod_eq_of_lt hi h1] at this
    exact this
end
theorem range_size (n : Nat) : Builtin.Range.rangeSize 0 (n : Int) 1 = (n : Int) := by
  unfold Builtin.Range.rangeSize
  simp only [show (1 : Int) > 0 by decide, if_true]
  split <;> omega
theorem range_small (n : Nat) (hn : n < 2 ^ 60) : Builtin.Range.small 0 (n : Int) 1 = true := by
  unfold Builtin.Range.small
  rw [range_size]
  rw [if_pos (show (1 : Int) > 0 by decide)]
  unfold Builtin.Range.rangeFitsLong
  simp only [Bool.and_eq_true, Bool.or_eq_true, decide_eq_true_eq, beq_iff_eq]
  omega
theorem len_base {w : World} {A : Around} {E : Value → Shared → Prop} {s : Shared} {g : Heap} {L : Addr} {m : Str → Option Value} {l : Addr} {its : List Value} {Q : Value → Shared → Prop} (F : Fr g L s.heap m) (hl : g.IsList l its.toArray)
    (hlen : its.length < 2 ^ 60) (h : ∀ t tk, Q (.int (its.length : Int) t) { s with toks := tk }) : wpAny (model PP w) A (call (.builtin "len") [.ref l]) Q E s :=
  len_list (hl.at fun o e => F.keep l o e) (by rw [List.size_toArray]; omega) (by rw [List.size_toArray]; exact h _ _)
theorem item_at {w : World} {A : Around} {E : Value → Shared → Prop} {s : Shared} {value slice : PySem.Expr} {l : Addr} {its : List Value} {k : Int} {u : Tok} {v : Value} {Q : Value → Shared → Prop} (hl : s.heap.IsList l its.toArray)
    (h0 : 0 ≤ k) (hx : its[k.toNat]? = some v) (hlen : its.length < 2 ^ 60) (h : Q v s)
    (hs : subscripted slice false (.ref l) (.int k u) = operate [.ref l, .int k u] (getItem (.ref l) (.int k u)) := by with_unfolding_all rfl) (hg : ∀ r, letTemporaryGo value (.ref l) r = pure () := by intro _; with_unfolding_all rfl) :
    wpAny (model PP w) A (subscriptTail value slice (.ref l) (.int k u)) Q E s :=
  item_list hl h0 (by have := (List.getElem?_eq_some_iff.mp hx).1; omega) (by simpa using hx) h hs hg
theorem allLt_mem {d : Addr} : ∀ {l : List (Addr × Obj)}, AllLt d l → ∀ p ∈ l, p.1 < d
  | [], _, _, h => nomatch h
  | _ :: _, x, p, h => by
    rcases List.mem_cons.mp h with rfl | h
    · exact x.1
    · exact allLt_mem x.2 p h
theorem off1_mem {D : Addr} : ∀ {l : List (Addr × Obj)}, LCg.Off1 D l → ∀ p ∈ l, p.1 ≠ D
  | [], _, _, h => nomatch h
  | _ :: _, x, p, h => by
    rcases List.mem_cons.mp h with rfl | h
    · exact x.1
    · exact off1_mem x.2 p h
/-- the items of a list are these octet rows -/
inductive BytesAre : List Value → List (List UInt8) → Prop
  | nil : BytesAre [] []
  | cons (r : List UInt8) (t : Tok) {vs : List Value} {rows : List (List UInt8)} : BytesAre vs rows → BytesAre (.bytes r.toArray t :: vs) (r :: rows)
theorem BytesAre.length {vs : List Value} {rows : List (List UInt8)} (h : BytesAre vs rows) : vs.length = rows.length := by
  induction h with
  | nil => rfl
  | cons r t _ ih => simp [ih]
theorem BytesAre.get {vs : List Value} {rows : List (List UInt8)} (h : BytesAre vs rows) : ∀ (i : Nat) (r : List UInt8), rows[i]? = some r → ∃ t, vs[i]? = some (Value.bytes r.toArray t) := by
  induction h with
  | nil => intro i r e; simp at e
  | cons r t _ ih =>
    intro i r' e
    cases i with
    | zero => simp at e; subst e; exact ⟨t, by simp⟩
    | succ i => simpa using ih i r' (by simpa using e)
theorem BytesAre.snoc {vs : List Value} {rows : List (List UInt8)} (h : BytesAre vs rows) (r : List UInt8) (t : Tok) : BytesAre (vs ++ [.bytes r.toArray t]) (rows ++ [r]) := by
  induction h with
  | nil => exact .cons r t .nil
  | cons r' t' _ ih => exact .cons r' t' ih
/-- x < y comes out as b, on every heap over g -/
noncomputable def LtIs (w : World) (g : Heap) (x y : Value) (b : Bool) : Prop :=
  ∀ (dp un : Nat) (fr : Option (List Env)) (gd : Option (List Code)) (s : Shared) (E : Value → Shared → Prop) (Q : Value → Shared → Prop), un < 9800 → (∀ a o, g.get? a = some o → s.heap.get? a = some o) → Q (.bool b) s →
    wpAny (model PP w) (AA dp un fr gd) (compareOp .Lt x y) Q E s
theorem FEnd.mk' {σ : Type} {g : Heap} {L : Addr} {ps : σ → List (Str × Value)} {Led : σ → List (Addr × Obj)} {P : σ → Prop} {own : List (Addr × Obj)} {s : Shared} (c' : σ) {m' : Str → Option Value} {h' : Heap} {tk' : Nat} {news' : List (Addr × Obj)}
    (F : Fr g L h' m') (hps : ∀ p ∈ ps c', m' p.1 = some p.2) (N : News g L h' news') (h1 : ∀ p ∈ Led c', p ∈ news') (h2 : ∀ p ∈ own, p ∈ news') (hP : P c') : FEnd g L ps Led P own s { s with heap := h', toks := tk' } := ⟨c', m', h', tk', news', rfl, F, hps, N, h1, h2, hP⟩
theorem WEnd.mk' {σ : Type} {g : Heap} {L : Addr} {ps : σ → List (Str × Value)} {Led : σ → List (Addr × Obj)} {P : σ → Prop} {μ : σ → Nat} {s : Shared} {c : σ} (c' : σ) {m' : Str → Option Value} {h' : Heap} {tk' : Nat}
    (F : Fr g L h' m') (hps : ∀ p ∈ ps c', m' p.1 = some p.2) (N : News g L h' (Led c')) (hP : P c') (hμ : μ c' < μ c) : WEnd g L ps Led P μ s c { s with heap := h', toks := tk' } := ⟨c', m', h', tk', rfl, F, hps, N, hP, hμ⟩
theorem CompEnd.mk' {g : Heap} {L I C D : Addr} {m : Str → Option Value} {s₁ : Shared} {oI oC oD : Obj} {S : List (Addr × Obj) → Prop} {rest : Value → List (Addr × Obj) → Prop} {y : Value} {h' : Heap} {tk : Nat} {news' : List (Addr × Obj)}
    (F : Fr g L h' m) (N : News g L h' ((I, oI) :: (C, oC) :: (D, oD) :: news')) (off : LCg.Off3 I C D news') (hS : S news') (r : rest y news') : LCg.CompEnd g L m s₁ I oI C oC D oD S rest y { s₁ with heap := h', toks := tk } := ⟨h', tk, news', rfl, F, N, off, hS, r⟩
/-! a short name for what is left to do -/
theorem fmc {α : Type} {p : α → Prop} {a : α} {l : List α} (h : p a) (t : ∀ x, x ∈ l → p x) : ∀ x, x ∈ a :: l → p x := List.forall_mem_cons.mpr ⟨h, t⟩
theorem fmn {α : Type} {p : α → Prop} : ∀ x, x ∈ ([] : List α) → p x := List.forall_mem_nil p
theorem fms {α : Type} {p : α → Prop} {a : α} (h : p a) : ∀ x, x ∈ [a] → p x := fun _ hx => List.mem_singleton.mp hx ▸ h
theorem elp1 {A' B' C' : Type} {p : (A' × B' × C') → Prop} (HH : ∀ a b c, p (a, b, c)) : ∀ x, p x := fun ⟨a, b, c⟩ => HH a b c
theorem ela2 {a b c d r : Prop} (HH : a → b → c → d → r) : (a ∧ b ∧ c ∧ d) → r := fun ⟨a, b, c, d⟩ => HH a b c d
theorem elp3 {A' B' C' D' : Type} {p : (A' × B' × C' × D') → Prop} (HH : ∀ a b c d, p (a, b, c, d)) : ∀ x, p x := fun ⟨a, b, c, d⟩ => HH a b c d
theorem ela4 {a b c r : Prop} (HH : a → b → c → r) : (a ∧ b ∧ c) → r := fun ⟨a, b, c⟩ => HH a b c
theorem elp5 {A' B' C' D' E' F' : Type} {p : (A' × B' × C' × D' × E' × F') → Prop} (HH : ∀ a b c d e f, p (a, b, c, d, e, f)) : ∀ x, p x := fun ⟨a, b, c, d, e, f⟩ => HH a b c d e f
theorem ela6 {a b c d e f r : Prop} (HH : a → b → c → d → e → f → r) : (a ∧ b ∧ c ∧ d ∧ e ∧ f) → r := fun ⟨a, b, c, d, e, f⟩ => HH a b c d e f
theorem elp7 {A' B' C' D' E' F' G' H' : Type} {p : (A' × B' × C' × D' × E' × F' × G' × H') → Prop} (HH : ∀ a b c d e f g h, p (a, b, c, d, e, f, g, h)) : ∀ x, p x := fun ⟨a, b, c, d, e, f, g, h⟩ => HH a b c d e f g h
theorem ela8 {a b c d e f g h i r : Prop} (HH : a → b → c → d → e → f → g → h → i → r) : (a ∧ b ∧ c ∧ d ∧ e ∧ f ∧ g ∧ h ∧ i) → r := fun ⟨a, b, c, d, e, f, g, h, i⟩ => HH a b c d e f g h i
theorem elp9 {A' B' C' D' E' F' G' : Type} {p : (A' × B' × C' × D' × E' × F' × G') → Prop} (HH : ∀ a b c d e f g, p (a, b, c, d, e, f, g)) : ∀ x, p x := fun ⟨a, b, c, d, e, f, g⟩ => HH a b c d e f g
theorem ela10 {a b c d e f g h r : Prop} (HH : a → b → c → d → e → f → g → h → r) : (a ∧ (b ∧ c) ∧ d ∧ e ∧ f ∧ g ∧ h) → r := fun ⟨a, ⟨b, c⟩, d, e, f, g, h⟩ => HH a b c d e f g h
theorem ela11 {a b c d e f r : Prop} (HH : a → b → c → d → e → f → r) : (a ∧ (b ∧ c) ∧ d ∧ e ∧ f) → r := fun ⟨a, ⟨b, c⟩, d, e, f⟩ => HH a b c d e f
theorem elp12 {A' B' C' D' E' F' G' H' I' J' : Type} {p : (A' × B' × (C' × D' × E' × F') × G' × H' × I' × J') → Prop} (HH : ∀ a b c d e f g h i j, p (a, b, (c, d, e, f), g, h, i, j)) : ∀ x, p x := fun ⟨a, b, ⟨c, d, e, f⟩, g, h, i, j⟩ => HH a b c d e f g h i j
theorem ela13 {a b c d e f g h i j k l r : Prop} (HH : a → b → c → d → e → f → g → h → i → j → k → l → r) : (a ∧ (b ∧ c) ∧ (d ∧ e ∧ f ∧ g) ∧ (h ∧ i) ∧ j ∧ k ∧ l) → r := fun ⟨a, ⟨b, c⟩, ⟨d, e, f, g⟩, ⟨h, i⟩, j, k, l⟩ => HH a b c d e f g h i j k l
theorem ela14 {a b r : Prop} (HH : a → b → r) : (a ∧ b) → r := fun ⟨a, b⟩ => HH a b
theorem elp15 {A' B' C' D' E' F' : Type} {p : ((A' × B' × C') × D' × E' × F') → Prop} (HH : ∀ a b c d e f, p ((a, b, c), d, e, f)) : ∀ x, p x := fun ⟨⟨a, b, c⟩, d, e, f⟩ => HH a b c d e f
noncomputable def Cont {β : Type} (Q : β → Shared → Prop) (v : β) (s : Shared) : Prop := Q v s
noncomputable def Cut {β : Type} (Q Q' : β → Shared → Prop) : Prop := ∀ v s, Q v s → Q' v s
theorem Cut.go {M : Model} {A : Around} {β : Type} {t : Sem β} {Q : β → Shared → Prop} {E : Value → Shared → Prop} {s : Shared} (h : ∀ Q', Cut Q Q' → wpAny M A t (Cont Q') E s) : wpAny M A t Q E s := h Q fun _ _ h => h
theorem Cut.use {β : Type} {Q Q' : β → Shared → Prop} {v : β} {s : Shared} (c : Cut Q Q') (h : Q v s) : Cont Q' v s := c v s h
end Mine
end

section
namespace Mine
/-- _siftdown, on a plain list -/
noncomputable def sd {α : Type} (lt : α → α → Bool) (x : α) (st : Nat) (its : List α) (pos : Nat) : List α :=
  if _h : st < pos then
    match its[(pos - 1) / 2]? with
    | some p => if lt x p then sd lt x st (its.set pos p) ((pos - 1) / 2) else its.set pos x
    | none => its.set pos x
  else its.set pos x
termination_by pos
decreasing_by omega
/-- the way down of _siftup: the hole goes to the least child -/
noncomputable def su {α : Type} (lt : α → α → Bool) (its : List α) (pos : Nat) : List α × Nat :=
  if h : 2 * pos + 1 < its.length then
    if h2 : 2 * pos + 2 < its.length then
      if lt its[2 * pos + 1] its[2 * pos + 2] then su lt (its.set pos its[2 * pos + 1]) (2 * pos + 1)
      else su lt (its.set pos its[2 * pos + 2]) (2 * pos + 2)
    else su lt (its.set pos its[2 * pos + 1]) (2 * pos + 1)
  else (its, pos)
termination_by its.length - pos
decreasing_by all_goals (simp only [List.length_set]; omega)
/-- _siftup -/
noncomputable def siftup {α : Type} (lt : α → α → Bool) (its : List α) (pos : Nat) : List α :=
  match its[pos]? with
  | some x => sd lt x pos ((su lt its pos).1.set (su lt its pos).2 x) (su lt its pos).2
  | none => its
noncomputable def heapifyF {α : Type} (lt : α → α → Bool) (its : List α) : List α := ((List.range (its.length / 2)).reverse).foldl (siftup lt) its
end Mine
end

section
namespace Mine
open List
theorem hole_perm {α : Type} {its : List α} {i j : Nat} {x : α} (hi : i < its.length) (hj : j < its.length) (hij : i ≠ j) :
    ((its.set i its[j]).set j x).Perm (its.set i x) := by
  have h := List.set_set_perm (as := its.set i x) (i := i) (j := j) (by simpa using hi) (by simpa using hj)
  rw [List.getElem_set_ne hij, List.getElem_set_self, List.set_set] at h
  exact h
theorem sd_length {α : Type} (lt : α → α → Bool) (x : α) (st : Nat) (its : List α) (pos : Nat) : (sd lt x st its pos).length = its.length := by
  fun_induction sd with
  | case1 its pos h p hp hb ih => simpa using ih
  | _ => simp
theorem sd_perm {α : Type} (lt : α → α → Bool) (x : α) (st : Nat) (its : List α) (pos : Nat) (hpos : pos < its.length) : (sd lt x st its pos).Perm (its.set pos x) := by
  fun_induction sd with
  | case1 its pos h p hp hb ih =>
    obtain ⟨hlt, rfl⟩ := List.getElem?_eq_some_iff.mp hp
    exact (ih (by simpa using hlt)).trans (hole_perm hpos hlt (by omega))
  | _ => exact .refl _
theorem su_length {α : Type} (lt : α → α → Bool) (its : List α) (pos : Nat) : (su lt its pos).1.length = its.length := by
  fun_induction su with
  | case1 its pos h h2 hb ih => simpa using ih
  | case2 its pos h h2 hb ih => simpa using ih
  | case3 its pos h h2 ih => simpa using ih
  | case4 => rfl
theorem su_perm {α : Type} (lt : α → α → Bool) (its : List α) (pos : Nat) (hpos : pos < its.length) (x : α) :
    (su lt its pos).2 < its.length ∧ ((su lt its pos).1.set (su lt its pos).2 x).Perm (its.set pos x) := by
  fun_induction su with
  | case1 its pos h h2 hb ih =>
    obtain ⟨a, b⟩ := ih (by simpa using h)
    exact ⟨by simpa using a, b.trans (hole_perm hpos h (by omega))⟩
  | case2 its pos h h2 hb ih =>
    obtain ⟨a, b⟩ := ih (by simpa using h2)
    exact ⟨by simpa using a, b.trans (hole_perm hpos h2 (by omega))⟩
  | case3 its pos h h2 ih =>
    obtain ⟨a, b⟩ := ih (by simpa using h)
    exact ⟨by simpa using a, b.trans (hole_perm hpos h (by omega))⟩
  | case4 => exact ⟨hpos, .refl _⟩
theorem siftup_perm {α : Type} (lt : α → α → Bool) (its : List α) (pos : Nat) : (siftup lt its pos).Perm its := by
  unfold siftup
  split
  · rename_i x hx
    obtain ⟨hlt, rfl⟩ := List.getElem?_eq_some_iff.mp hx
    obtain ⟨a, b⟩ := su_perm lt its pos hlt its[pos]
    refine (sd_perm lt _ _ _ _ (by simpa [su_length] using a)).trans ?_
    rw [List.set_set]
    refine b.trans ?_
    simp
  · exact .refl _
theorem siftup_length {α : Type} (lt : α → α → Bool) (its : List α) (pos : Nat) : (siftup lt its pos).length = its.length := (siftup_perm lt its pos).length_eq
theorem foldl_siftup_perm {α : Type} (lt : α → α → Bool) : ∀ (is : List Nat) (its : List α), (is.foldl (siftup lt) its).Perm its
  | [], its => .refl _
  | i :: r, its => (foldl_siftup_perm lt r _).trans (siftup_perm lt its i)
theorem heapifyF_perm {α : Type} (lt : α → α → Bool) (its : List α) : (heapifyF lt its).Perm its := foldl_siftup_perm lt _ _
end Mine
end

section
namespace Mine
/-- octets in the order of the alphabet -/
noncomputable def blt : List UInt8 → List UInt8 → Bool
  | [], [] => false
  | [], _ :: _ => true
  | _ :: _, [] => false
  | x :: xs, y :: ys => if x < y then true else if y < x then false else blt xs ys
noncomputable abbrev Key := List UInt8 × Int
noncomputable def klt (a b : Key) : Bool := if a.1 = b.1 then decide (a.2 < b.2) else blt a.1 b.1
noncomputable def hpush {α : Type} (lt : α → α → Bool) (kl : List α) (k : α) : List α := sd lt k 0 (kl ++ [k]) kl.length
/-- heappop's list -/
noncomputable def hrest {α : Type} (lt : α → α → Bool) (kl : List α) : List α :=
  match kl.getLast? with
  | some y => siftup lt (kl.dropLast.set 0 y) 0
  | none => []
/-- a row told over and over and cut -/
noncomputable def cut (u : List UInt8) (n : Nat) : List UInt8 := ((List.replicate n u).flatten).take n
noncomputable def keyAt (row : List UInt8) (size k : Nat) : Key := (cut (row.drop k ++ row.take k) size, ((row.getD ((k + row.length - 1) % row.length) 0).toNat : Int))
noncomputable def rowKeys (size : Nat) (row : List UInt8) : List Key := (List.range row.length).map (keyAt row size)
noncomputable def allKeys (rows : List (List UInt8)) (size : Nat) : List Key := rows.flatMap (rowKeys size)
noncomputable def colHeap (rows : List (List UInt8)) (size : Nat) : List Key := (allKeys rows size).foldl (hpush klt) []
theorem hpush_length {α : Type} (lt : α → α → Bool) (kl : List α) (k : α) : (hpush lt kl k).length = kl.length + 1 := by
  unfold hpush; rw [sd_length]; simp
theorem foldl_hpush_length {α : Type} (lt : α → α → Bool) : ∀ (ks kl : List α), (ks.foldl (hpush lt) kl).length = kl.length + ks.length
  | [], kl => by simp
  | k :: r, kl => by rw [List.foldl_cons, foldl_hpush_length lt r, hpush_length]; simp; omega
theorem sd_map {α β : Type} (f : α → β) (lt : α → α → Bool) (lt' : β → β → Bool) (S : α → Prop) (h : ∀ a b, S a → S b → lt a b = lt' (f a) (f b)) (x : α) (hx : S x) (st : Nat) (its : List α) (hits : ∀ a ∈ its, S a) (pos : Nat) :
    (sd lt x st its pos).map f = sd lt' (f x) st (its.map f) pos := by
  fun_induction sd lt x st its pos with
  | case1 its pos hp p hget hb ih =>
    have hpm : p ∈ its := List.mem_of_getElem? hget
    have := ih (fun a ha => (List.mem_or_eq_of_mem_set ha).elim (hits a) (fun e => e ▸ hits p hpm))
    rw [this]
    conv => rhs; rw [sd]
    simp [hp, hget, ← h x p hx (hits p hpm), hb, List.map_set]
  | case2 its pos hp p hget hb =>
    have hpm : p ∈ its := List.mem_of_getElem? hget
    rw [sd]
    simp [hp, hget, ← h x p hx (hits p hpm), hb, List.map_set]
  | case3 its pos hp hget =>
    rw [sd]
    simp [hp, hget, List.map_set]
  | case4 its pos hp =>
    rw [sd]
    simp [hp, List.map_set]
theorem su_map {α β : Type} (f : α → β) (lt : α → α → Bool) (lt' : β → β → Bool) (S : α → Prop) (h : ∀ a b, S a → S b → lt a b = lt' (f a) (f b)) (its : List α) (hits : ∀ a ∈ its, S a) (pos : Nat) :
    (su lt its pos).1.map f = (su lt' (its.map f) pos).1 ∧ (su lt its pos).2 = (su lt' (its.map f) pos).2 := by
  fun_induction su lt its pos with
  | case1 its pos h1 h2 hb ih =>
    have m1 := hits _ (List.getElem_mem h1)
    have m2 := hits _ (List.getElem_mem h2)
    have := ih (fun a ha => (List.mem_or_eq_of_mem_set ha).elim (hits a) (fun e => e ▸ m1))
    rw [this.1, this.2]
    rw [show su lt' (its.map f) pos = su lt' ((its.map f).set pos (f its[2 * pos + 1])) (2 * pos + 1) by
      conv => lhs; rw [su]
      simp [h1, h2, ← h _ _ m1 m2, hb]]
    simp [List.map_set]
  | case2 its pos h1 h2 hb ih =>
    have m1 := hits _ (List.getElem_mem h1)
    have m2 := hits _ (List.getElem_mem h2)
    have := ih (fun a ha => (List.mem_or_eq_of_mem_set ha).elim (hits a) (fun e => e ▸ m2))
    rw [this.1, this.2]
    rw [show su lt' (its.map f) pos = su lt' ((its.map f).set pos (f its[2 * pos + 2])) (2 * pos + 2) by
      conv => lhs; rw [su]
      simp [h1, h2, ← h _ _ m1 m2, hb]]
    simp [List.map_set]
  | case3 its pos h1 h2 ih =>
    have m1 := hits _ (List.getElem_mem h1)
    have := ih (fun a ha => (List.mem_or_eq_of_mem_set ha).elim (hits a) (fun e => e ▸ m1))
    rw [this.1, this.2]
    rw [show su lt' (its.map f) pos = su lt' ((its.map f).set pos (f its[2 * pos + 1])) (2 * pos + 1) by
      conv => lhs; rw [su]
      simp [h1, h2]]
    simp [List.map_set]
  | case4 its pos h1 =>
    rw [su]
    simp [h1]
theorem su_mem {α : Type} (lt : α → α → Bool) (its : List α) (pos : Nat) : ∀ a ∈ (su lt its pos).1, a ∈ its := by
  fun_induction su lt its pos with
  | case1 its pos h1 h2 hb ih => intro a ha; exact (List.mem_or_eq_of_mem_set (ih a ha)).elim id (fun e => e ▸ List.getElem_mem h1)
  | case2 its pos h1 h2 hb ih => intro a ha; exact (List.mem_or_eq_of_mem_set (ih a ha)).elim id (fun e => e ▸ List.getElem_mem h2)
  | case3 its pos h1 h2 ih => intro a ha; exact (List.mem_or_eq_of_mem_set (ih a ha)).elim id (fun e => e ▸ List.getElem_mem h1)
  | case4 => exact fun a ha => ha
theorem siftup_map {α β : Type} (f : α → β) (lt : α → α → Bool) (lt' : β → β → Bool) (S : α → Prop) (h : ∀ a b, S a → S b → lt a b = lt' (f a) (f b)) (its : List α) (hits : ∀ a ∈ its, S a) (pos : Nat) :
    (siftup lt its pos).map f = siftup lt' (its.map f) pos := by
  unfold siftup
  rw [List.getElem?_map]
  cases hx : its[pos]? with
  | none => rfl
  | some x =>
    simp only [Option.map_some]
    have hxm := hits x (List.mem_of_getElem? hx)
    have m := su_map f lt lt' S h its hits pos
    rw [sd_map f lt lt' S h x hxm _ _ (fun a ha => (List.mem_or_eq_of_mem_set ha).elim (fun q => hits a (su_mem lt its pos a q)) (fun e => e ▸ hxm)), List.map_set, m.1, m.2]
noncomputable def restN {α : Type} (lt : α → α → Bool) : Nat → List α → List α
  | 0, kl => kl
  | n + 1, kl => hrest lt (restN lt n kl)
theorem hrest_snoc {α : Type} (lt : α → α → Bool) (kl : List α) (y : α) : hrest lt (kl ++ [y]) = siftup lt (kl.set 0 y) 0 := by
  unfold hrest
  simp
theorem hrest_length {α : Type} (lt : α → α → Bool) (kl : List α) : (hrest lt kl).length = kl.length - 1 := by
  rcases List.eq_nil_or_concat kl with rfl | ⟨l, y, rfl⟩
  · rfl
  · rw [List.concat_eq_append, hrest_snoc, siftup_length]; simp
theorem restN_length {α : Type} (lt : α → α → Bool) (kl : List α) : ∀ n, (restN lt n kl).length = kl.length - n
  | 0 => rfl
  | n + 1 => by rw [restN, hrest_length, restN_length lt kl n]; omega
/-- the keys in the order in which heappop takes them -/
noncomputable def popK {α : Type} [Inhabited α] (lt : α → α → Bool) (kl : List α) (n : Nat) : List α := (List.range n).map fun i => (restN lt i kl).headD default
/-- _law_column -/
noncomputable def columnF (rows : List (List UInt8)) (size : Nat) : List Int := (popK klt (colHeap rows size) size).map (·.2)
end Mine
end

section
namespace Mine
noncomputable abbrev KeyI := Int × Int
noncomputable def kltI (a b : KeyI) : Bool := if a.1 = b.1 then decide (a.2 < b.2) else decide (a.1 < b.1)
noncomputable def pairsF (col : List Int) : List KeyI := (List.range col.length).map fun k => (col.getD k 0, (k : Int))
/-- the pairs in order -/
noncomputable def ordF (col : List Int) : List KeyI := popK kltI (heapifyF kltI (pairsF col)) col.length
/-- the while of _law_rings: what is seen behind it, and the ring -/
noncomputable def follow (ord : List KeyI) : Nat → List Int → Int → List Int × List Int
  | 0, seen, _ => (seen, [])
  | f + 1, seen, place =>
    if place ∈ seen then (seen, [])
    else
      let k := ord.getD place.toNat default
      let r := follow ord f (seen ++ [place]) k.2
      (r.1, k.1 :: r.2)
noncomputable def ringStep (ord : List KeyI) (n : Nat) (c : List Int × List (List Int)) (k : Int) : List Int × List (List Int) :=
  let r := follow ord (n + 1 - c.1.length) c.1 k
  (r.1, if r.2 = [] then c.2 else c.2 ++ [r.2])
noncomputable def ringsI (ord : List KeyI) (n : Nat) : List Int × List (List Int) := ((List.range n).map fun (k : Nat) => (k : Int)).foldl (ringStep ord n) ([], [])
/-- _law_rings -/
noncomputable def ringsF (col : List Int) : List (List UInt8) := (ringsI (ordF col) col.length).2.map fun r => r.map fun i => i.toNat.toUInt8
theorem foldl_siftup_map {α β : Type} (f : α → β) (lt : α → α → Bool) (lt' : β → β → Bool) (h : ∀ a b, lt a b = lt' (f a) (f b)) : ∀ (is : List Nat) (its : List α), (is.foldl (siftup lt) its).map f = is.foldl (siftup lt') (its.map f)
  | [], _ => rfl
  | i :: r, its => by
    rw [List.foldl_cons, foldl_siftup_map f lt lt' h r, List.foldl_cons, siftup_map f lt lt' (fun _ => True) (fun a b _ _ => h a b) its (fun _ _ => trivial)]
theorem heapifyF_map {α β : Type} (f : α → β) (lt : α → α → Bool) (lt' : β → β → Bool) (h : ∀ a b, lt a b = lt' (f a) (f b)) (its : List α) : (heapifyF lt its).map f = heapifyF lt' (its.map f) := by
  unfold heapifyF
  rw [foldl_siftup_map f lt lt' h, List.length_map]
theorem popK_succ {α : Type} [Inhabited α] (lt : α → α → Bool) (kl : List α) (i : Nat) : popK lt kl (i + 1) = popK lt kl i ++ [(restN lt i kl).headD default] := by
  unfold popK
  rw [List.range_succ, List.map_append, List.map_singleton]
theorem nodup_len : ∀ (n : Nat) (l : List Nat), l.Nodup → (∀ x ∈ l, x < n) → l.length ≤ n
  | 0, l, _, h => by
    cases l with
    | nil => simp
    | cons a r => exact absurd (h a (by simp)) (Nat.not_lt_zero _)
  | n + 1, l, hn, h => by
    have h1 := nodup_len n (l.erase n) (hn.erase n) (fun x hx => by
      have hx' := (List.Nodup.mem_erase_iff hn).mp hx
      have := h x hx'.2
      omega)
    have h2 := List.length_erase (a := n) (l := l)
    split at h2 <;> omega
theorem nodup_lenI {n : Nat} {l : List Int} (hn : l.Nodup) (h : ∀ x ∈ l, 0 ≤ x ∧ x < (n : Int)) : l.length ≤ n := by
  have := nodup_len n (l.map Int.toNat) ?_ ?_
  · simpa using this
  · refine List.pairwise_map.mpr (List.Pairwise.imp_of_mem ?_ hn)
    intro a b ha hb hab e
    have h1 := h a ha
    have h2 := h b hb
    omega
  · intro x hx
    obtain ⟨y, hy, rfl⟩ := List.mem_map.mp hx
    have := h y hy
    omega
theorem follow_in {ord : List KeyI} {f : Nat} {seen : List Int} {place : Int} (h : place ∈ seen) : follow ord f seen place = (seen, []) := by
  cases f with
  | zero => rfl
  | succ f => simp [follow, h]
theorem follow_out {ord : List KeyI} {f : Nat} {seen : List Int} {place : Int} (h : place ∉ seen) :
    follow ord (f + 1) seen place = ((follow ord f (seen ++ [place]) (ord.getD place.toNat default).2).1, (ord.getD place.toNat default).1 :: (follow ord f (seen ++ [place]) (ord.getD place.toNat default).2).2) := by
  conv => lhs; rw [follow]
  simp [h]
end Mine
end

section
open PySem PySem.W PyProof.Rows
set_option linter.unusedVariables false
namespace Mine
/-- where a sort's questions are answered by cmp, about places below N, it ends in P -/
noncomputable def Ends {α : Type} (N : Nat) (cmp : Nat → Nat → Bool) : KasT α → (α → Prop) → Prop
  | .ret a, P => P a
  | .ask i j k, P => i < N ∧ j < N ∧ Ends N cmp (k (cmp i j)) P
theorem Ends.bind {α β : Type} {N : Nat} {cmp : Nat → Nat → Bool} {f : α → KasT β} {P : β → Prop} : ∀ (t : KasT α), Ends N cmp t (fun a => Ends N cmp (f a) P) → Ends N cmp (t.bind f) P
  | .ret _, h => h
  | .ask _ _ k, h => ⟨h.1, h.2.1, Ends.bind (k _) h.2.2⟩
theorem Ends.mono {α : Type} {N : Nat} {cmp : Nat → Nat → Bool} {P P' : α → Prop} (hp : ∀ a, P a → P' a) : ∀ (t : KasT α), Ends N cmp t P → Ends N cmp t P'
  | .ret _, h => hp _ h
  | .ask _ _ k, h => ⟨h.1, h.2.1, Ends.mono hp (k _) h.2.2⟩
section
variable (O : KeyOrd) (key : Nat → O.α) (N : Nat)
/-- an order of the places -/
structure POk (p : Array Nat) : Prop where
  size : p.size = N
  perm : p.toList.Perm (List.range N)
variable {N}
theorem POk.of_perm {p q : Array Nat} (h : POk N p) (hq : q.Perm p) : POk N q :=
  ⟨hq.size_eq.trans h.size, (Array.perm_iff_toList_perm.mp hq).trans h.perm⟩
theorem POk.lt {p : Array Nat} (h : POk N p) (hN : 0 < N) (i : Nat) : p.getD i 0 < N := by
  rw [Array.getD_eq_getD_getElem?]
  cases e : p[i]? with
  | none => exact hN
  | some x =>
    have : x ∈ p.toList := by rw [Array.mem_toList_iff]; exact Array.mem_of_getElem? e
    exact List.mem_range.mp (h.perm.mem_iff.mp this)
noncomputable def X (p : Array Nat) (i : Nat) : O.α := key (p.getD i 0)
variable {O key}
theorem X_congr {p q : Array Nat} {i j : Nat} (h : p[i]? = q[j]?) : X O key p i = X O key q j := by
  unfold X; rw [Array.getD_eq_getD_getElem?, Array.getD_eq_getD_getElem?, h]
theorem X_rev {p : Array Nat} {i j : Nat} (hj : j ≤ p.size) (k : Nat) : X O key (kas_rev p i j) k = if i ≤ k ∧ k < j then X O key p (i + j - 1 - k) else X O key p k := by
  have e := getElem?_mirror_all (xs := p) (i := i) hj k
  split at e
  · rename_i h; rw [if_pos h]; exact X_congr e
  · rename_i h; rw [if_neg h]; exact X_congr e
theorem X_rev_same {p : Array Nat} {i j : Nat} (hj : j ≤ p.size) (h : ∀ k, i ≤ k → k < j → X O key p k = X O key p (j - 1)) (k : Nat) : X O key (kas_rev p i j) k = X O key p k := by
  rw [X_rev hj]
  split
  · rw [h _ (by omega) (by omega), h k (by omega) (by omega)]
  · rfl
variable (O key)
noncomputable def Up (p : Array Nat) (k : Nat) : Prop := ∀ i j, i ≤ j → j < k → O.kle (X O key p i) (X O key p j)
noncomputable def Down (p : Array Nat) (k : Nat) : Prop := ∀ i j, i ≤ j → j < k → O.kle (X O key p j) (X O key p i)
noncomputable abbrev qcmp (i j : Nat) : Bool := O.blt (key i) (key j)
variable {O key}
theorem Up.step {p : Array Nat} {n : Nat} (h : Up O key p n) (hn : 1 ≤ n) (hl : O.kle (X O key p (n - 1)) (X O key p n)) : Up O key p (n + 1) := by
  intro i j hij hj
  rcases Nat.lt_or_ge j n with h1 | h1
  · exact h i j hij h1
  · have : j = n := by omega
    subst this
    rcases Nat.lt_or_ge i j with h2 | h2
    · exact KeyOrd.kle_trans (h i (j - 1) (by omega) (by omega)) hl
    · have : i = j := by omega
      subst this; exact KeyOrd.kle_refl _
theorem Down.step {p : Array Nat} {n : Nat} (h : Down O key p n) (hn : 1 ≤ n) (hl : O.kle (X O key p n) (X O key p (n - 1))) : Down O key p (n + 1) := by
  intro i j hij hj
  rcases Nat.lt_or_ge j n with h1 | h1
  · exact h i j hij h1
  · have : j = n := by omega
    subst this
    rcases Nat.lt_or_ge i j with h2 | h2
    · exact KeyOrd.kle_trans hl (h i (j - 1) (by omega) (by omega))
    · have : i = j := by omega
      subst this; exact KeyOrd.kle_refl _
theorem Up.one {p : Array Nat} : Up O key p 1 := fun i j hij hj => by
  have : i = j := by omega
  subst this; exact KeyOrd.kle_refl _
theorem asc_ends {p : Array Nat} (hp : POk N p) (hN : 0 < N) : ∀ (f n : Nat), 1 ≤ n → Up O key p n →
    Ends N (qcmp O key) (kas_asc p f n) fun m => n ≤ m ∧ m ≤ n + f ∧ Up O key p m ∧ (m = n + f ∨ O.klt (X O key p m) (X O key p (m - 1)))
  | 0, n, _, h => ⟨Nat.le_refl _, Nat.le_refl _, h, .inl rfl⟩
  | f + 1, n, h1, h => by
    refine ⟨hp.lt hN _, hp.lt hN _, ?_⟩
    cases hb : qcmp O key (p.getD n 0) (p.getD (n - 1) 0) with
    | true =>
      simp only [if_true]
      exact ⟨Nat.le_refl _, by omega, h, .inr hb⟩
    | false =>
      simp only [Bool.false_eq_true, if_false]
      refine Ends.mono (fun m hm => ⟨by omega, by omega, hm.2.2.1, hm.2.2.2.imp_left fun e => by omega⟩) _ (asc_ends hp hN f (n + 1) (by omega) (h.step h1 hb))
/-- the last q + 1 below n are one -/
noncomputable def Flat (p : Array Nat) (n q : Nat) : Prop := q + 1 ≤ n ∧ ∀ i, n - (q + 1) ≤ i → i < n → X O key p i = X O key p (n - 1)
theorem Flat.zero {p : Array Nat} {n : Nat} (hn : 1 ≤ n) : Flat (O := O) (key := key) p n 0 := ⟨hn, fun i h1 h2 => by rw [show i = n - 1 by omega]⟩
theorem desc_ends (hN : 0 < N) : ∀ (f : Nat) (p : Array Nat) (n q : Nat), POk N p → n + f ≤ N → Down O key p n → Flat (O := O) (key := key) p n q →
    Ends N (qcmp O key) (kas_desc f p n q) fun r => POk N r.1 ∧ n ≤ r.2.1 ∧ r.2.1 ≤ n + f ∧ Down O key r.1 r.2.1 ∧ Flat (O := O) (key := key) r.1 r.2.1 r.2.2
  | 0, p, n, q, hp, _, hd, hf => ⟨hp, Nat.le_refl _, Nat.le_refl _, hd, hf⟩
  | f + 1, p, n, q, hp, hnf, hd, hf => by
    have hsz : n ≤ p.size := by rw [hp.size]; omega
    refine ⟨hp.lt hN _, hp.lt hN _, ?_⟩
    cases hb : qcmp O key (p.getD n 0) (p.getD (n - 1) 0) with
    | true =>
      simp only [if_true]
      have hstep : Down O key p (n + 1) := hd.step (by have := hf.1; omega) (KeyOrd.kle_of_klt hb)
      split
      · have same := X_rev_same (O := O) (key := key) hsz hf.2
        refine Ends.mono (fun r hr => ⟨hr.1, by omega, by omega, hr.2.2.2⟩) _ (desc_ends hN f (kas_rev p (n - (q + 1)) n) (n + 1) 0 (hp.of_perm (mirror_perm _ _ _ _)) (by omega) (fun i j hij hj => by rw [same, same]; exact hstep i j hij hj) (.zero (by omega)))
      · exact Ends.mono (fun r hr => ⟨hr.1, by omega, by omega, hr.2.2.2⟩) _ (desc_ends hN f p (n + 1) 0 hp (by omega) hstep (.zero (by omega)))
    | false =>
      simp only [Bool.false_eq_true, if_false]
      refine ⟨hp.lt hN _, hp.lt hN _, ?_⟩
      cases hc : qcmp O key (p.getD (n - 1) 0) (p.getD n 0) with
      | true =>
        simp only [if_true]
        exact ⟨hp, Nat.le_refl _, Nat.le_add_right _ _, hd, hf⟩
      | false =>
        simp only [Bool.false_eq_true, if_false]
        have heq : X O key p n = X O key p (n - 1) := KeyOrd.kle_antisymm hc hb
        refine Ends.mono (fun r hr => ⟨hr.1, by omega, by omega, hr.2.2.2⟩) _ (desc_ends hN f p (n + 1) (q + 1) hp (by omega) (hd.step (by have := hf.1; omega) hc) ⟨by have := hf.1; omega, fun i h1 h2 => ?_⟩)
        rw [show n + 1 - 1 = n by omega]
        rcases Nat.lt_or_ge i n with h3 | h3
        · rw [heq]; exact hf.2 i (by omega) h3
        · rw [show i = n by omega]
theorem tail_ends (hN : 0 < N) {p : Array Nat} {n : Nat} (hp : POk N p) (h1 : 1 ≤ n) (hn : n ≤ N) (hd : Down O key p n) :
    Ends N (qcmp O key) (kas_tail3 n N p) fun r => POk N r.2 ∧ 1 ≤ r.1 ∧ r.1 ≤ N ∧ Up O key r.2 r.1 := by
  have hsz : n ≤ p.size := by rw [hp.size]; omega
  have hp' : POk N (kas_rev p 0 n) := hp.of_perm (mirror_perm _ _ _ _)
  refine Ends.bind _ (Ends.mono (fun m hm => ⟨hp', by omega, by omega, hm.2.2.1⟩) _ (asc_ends hp' hN (N - n) n h1 fun i j hij hj => ?_))
  rw [X_rev hsz, X_rev hsz, if_pos (by omega), if_pos (by omega)]
  exact hd _ _ (by omega) (by omega)
theorem descPart_ends (hN : 0 < N) {p : Array Nat} {n : Nat} (hp : POk N p) (hn : n + 1 ≤ N) (hd : Down O key p (n + 1)) :
    Ends N (qcmp O key) (kas_descPart n N p) fun r => POk N r.2 ∧ 1 ≤ r.1 ∧ r.1 ≤ N ∧ Up O key r.2 r.1 := by
  refine Ends.bind _ (Ends.mono (fun r hr => ?_) _ (desc_ends hN (N - (n + 1)) p (n + 1) 0 hp (by omega) hd (.zero (by omega))))
  obtain ⟨r1, r2, r3, r4, r5⟩ := hr
  have hsz : r.2.1 ≤ r.1.size := by rw [r1.size]; omega
  split
  · have same := X_rev_same (O := O) (key := key) hsz r5.2
    exact tail_ends hN (r1.of_perm (mirror_perm _ _ _ _)) (by omega) (by omega) fun i j hij hj => by rw [same, same]; exact r4 i j hij hj
  · exact tail_ends hN r1 (by omega) (by omega) r4
theorem count_ends (hN : 0 < N) {p : Array Nat} (hp : POk N p) : Ends N (qcmp O key) (kas_count N p) fun r => POk N r.2 ∧ 1 ≤ r.1 ∧ r.1 ≤ N ∧ Up O key r.2 r.1 := by
  refine Ends.bind _ (Ends.mono (fun n hn => ?_) _ (asc_ends hp hN (N - 1) 1 (Nat.le_refl _) Up.one))
  obtain ⟨n1, n2, n3, n4⟩ := hn
  have hsz : n ≤ p.size := by rw [hp.size]; omega
  split
  · exact ⟨hp, n1, by omega, n3⟩
  · rename_i hne
    have hne' : n ≠ N := by simpa using hne
    have hlt : O.klt (X O key p n) (X O key p (n - 1)) := n4.resolve_left (by omega)
    split
    · refine ⟨hp.lt hN _, hp.lt hN _, ?_⟩
      cases hb : qcmp O key (p.getD 0 0) (p.getD (n - 1) 0) with
      | true =>
        simp only [if_true]
        exact ⟨hp, n1, by omega, n3⟩
      | false =>
        simp only [Bool.false_eq_true, if_false]
        have hall : ∀ k, 0 ≤ k → k < n → X O key p k = X O key p (n - 1) := fun k _ hk =>
          KeyOrd.kle_antisymm (n3 k (n - 1) (by omega) (by omega)) (KeyOrd.kle_trans hb (n3 0 k (by omega) hk))
        have same := X_rev_same (O := O) (key := key) hsz hall
        refine descPart_ends hN (hp.of_perm (mirror_perm _ _ _ _)) (by omega) fun i j hij hj => ?_
        rw [same, same]
        refine Down.step (fun i j hij hj => ?_) n1 (KeyOrd.kle_of_klt hlt) i j hij hj
        rw [hall i (by omega) (by omega), hall j (by omega) (by omega)]
        exact KeyOrd.kle_refl _
    · refine descPart_ends hN hp (by omega) (Down.step (fun i j hij hj => ?_) n1 (KeyOrd.kle_of_klt hlt))
      have : i = j := by omega
      subst this; exact KeyOrd.kle_refl _
theorem place_ends (hN : 0 < N) {p : Array Nat} (hp : POk N p) {k : Nat} (hk : Up O key p k) : ∀ (f l r : Nat), l ≤ r → r ≤ k → r - l ≤ f →
    (∀ i, i < l → O.kle (X O key p i) (X O key p k)) → (∀ i, r ≤ i → i < k → O.klt (X O key p k) (X O key p i)) →
    Ends N (qcmp O key) (kas_place p k f l r) fun l => l ≤ k ∧ (∀ i, i < l → O.kle (X O key p i) (X O key p k)) ∧ ∀ i, l ≤ i → i < k → O.klt (X O key p k) (X O key p i)
  | 0, l, r, h1, h2, h3, lo, hi => by
    have : l = r := by omega
    subst this
    exact ⟨h2, lo, hi⟩
  | f + 1, l, r, h1, h2, h3, lo, hi => by
    rw [kas_place]
    split
    · have : l = r := by omega
      subst this
      exact ⟨h2, lo, hi⟩
    · refine ⟨hp.lt hN _, hp.lt hN _, ?_⟩
      cases hb : qcmp O key (p.getD k 0) (p.getD ((l + r) / 2) 0) with
      | true =>
        simp only [if_true]
        exact place_ends hN hp hk f l ((l + r) / 2) (by omega) (by omega) (by omega) lo fun i hi1 hi2 => KeyOrd.klt_of_klt_of_kle hb (hk _ _ hi1 hi2)
      | false =>
        simp only [Bool.false_eq_true, if_false]
        exact place_ends hN hp hk f ((l + r) / 2 + 1) r (by omega) (by omega) (by omega) (fun i hi1 => KeyOrd.kle_trans (hk i ((l + r) / 2) (by omega) (by omega)) hb) hi
theorem bin_ends (hN : 0 < N) : ∀ (f : Nat) (p : Array Nat) (k : Nat), POk N p → 1 ≤ k → k + f = N → Up O key p k →
    Ends N (qcmp O key) (kas_bin f p k) fun p' => POk N p' ∧ Up O key p' N
  | 0, p, k, hp, _, hk, hu => ⟨hp, by rw [Nat.add_zero] at hk; exact hk ▸ hu⟩
  | f + 1, p, k, hp, h1, hk, hu => by
    have hs : k < p.size := by rw [hp.size]; omega
    refine Ends.bind _ (Ends.mono (fun l hl => ?_) _ (place_ends hN hp hu k 0 k (by omega) (Nat.le_refl _) (by omega) (fun i hi => by omega) (fun i h1 h2 => by omega)))
    obtain ⟨l1, l2, l3⟩ := hl
    refine bin_ends hN f (bubble p k (k - l)) (k + 1) (hp.of_perm (bubble_perm _ _ _)) (by omega) (by omega) fun i j hij hj => ?_
    have hX : ∀ m, X O key (bubble p k (k - l)) m = if m = l then X O key p k else if l < m ∧ m ≤ k then X O key p (m - 1) else X O key p m := by
      intro m
      have e := getElem?_bubble hs (k - l) (by omega) m
      rw [show k - (k - l) = l by omega] at e
      by_cases e1 : m = l
      · rw [if_pos e1] at e ⊢; exact X_congr e
      · rw [if_neg e1] at e ⊢
        by_cases e2 : l < m ∧ m ≤ k
        · rw [if_pos e2] at e ⊢; exact X_congr e
        · rw [if_neg e2] at e ⊢; exact X_congr e
    rw [hX, hX]
    by_cases a1 : i = l
    · rw [if_pos a1]
      by_cases b1 : j = l
      · rw [if_pos b1]; exact KeyOrd.kle_refl _
      · rw [if_neg b1, if_pos (by omega)]; exact KeyOrd.kle_of_klt (l3 _ (by omega) (by omega))
    · rw [if_neg a1]
      by_cases a2 : l < i ∧ i ≤ k
      · rw [if_pos a2, if_neg (by omega), if_pos (by omega)]; exact hu _ _ (by omega) (by omega)
      · rw [if_neg a2]
        by_cases b1 : j = l
        · rw [if_pos b1]; exact l2 _ (by omega)
        · rw [if_neg b1]
          by_cases b2 : l < j ∧ j ≤ k
          · rw [if_pos b2]; exact hu _ _ (by omega) (by omega)
          · rw [if_neg b2]; exact hu _ _ (by omega) (by omega)
theorem sort_ends (hN : 0 < N) : Ends N (qcmp O key) (kas_sort N) fun p => POk N p ∧ Up O key p N := by
  have h0 : POk N (List.toArray (List.range N)) := ⟨by simp, .refl _⟩
  refine Ends.bind _ (Ends.mono (fun r hr => ?_) _ (count_ends hN h0))
  obtain ⟨r1, r2, r3, r4⟩ := hr
  split
  · exact bin_ends hN _ _ _ r1 (by omega) (by omega) (by rw [show max r.1 1 = r.1 by omega]; exact r4)
  · exact ⟨r1, (show r.1 = N by omega) ▸ r4⟩
end
end Mine
end

section
open PySem PySem.W PyProof.Rows
set_option linter.unusedVariables false
namespace Mine
theorem blt_irrefl : ∀ a : List UInt8, blt a a = false
  | [] => rfl
  | x :: r => by simp [blt, blt_irrefl r]
theorem blt_cons (x y : UInt8) (a b : List UInt8) : blt (x :: a) (y :: b) = if x < y then true else if y < x then false else blt a b := rfl
theorem blt_total : ∀ a b : List UInt8, blt a b = false → blt b a = false → a = b
  | [], [], _, _ => rfl
  | [], _ :: _, h, _ => by simp [blt] at h
  | _ :: _, [], _, h => by simp [blt] at h
  | x :: a, y :: b, h1, h2 => by
    rw [blt_cons] at h1 h2
    by_cases e1 : x < y
    · simp [e1] at h1
    · by_cases e2 : y < x
      · simp [e2] at h2
      · simp only [e1, e2, if_false] at h1 h2
        have hxy : x = y := by
          have e1' := UInt8.not_lt.mp e1
          have e2' := UInt8.not_lt.mp e2
          exact UInt8.le_antisymm e2' e1'
        rw [hxy, blt_total a b h1 h2]
theorem blt_trans : ∀ a b c : List UInt8, blt a b = true → blt b c = true → blt a c = true
  | [], [], _, h, _ => by simp [blt] at h
  | [], _ :: _, [], _, h => by simp [blt] at h
  | [], _ :: _, _ :: _, _, _ => rfl
  | _ :: _, [], _, h, _ => by simp [blt] at h
  | _ :: _, _ :: _, [], _, h => by simp [blt] at h
  | x :: a, y :: b, z :: c, h1, h2 => by
    rw [blt_cons] at h1 h2 ⊢
    by_cases e1 : x < y
    · by_cases e2 : y < z
      · rw [if_pos (UInt8.lt_trans e1 e2)]
      · rw [if_neg e2] at h2
        by_cases e3 : z < y
        · rw [if_pos e3] at h2; cases h2
        · have : y = z := UInt8.le_antisymm (UInt8.not_lt.mp e3) (UInt8.not_lt.mp e2)
          rw [if_pos (this ▸ e1)]
    · rw [if_neg e1] at h1
      by_cases e4 : y < x
      · rw [if_pos e4] at h1; cases h1
      · rw [if_neg e4] at h1
        have : x = y := UInt8.le_antisymm (UInt8.not_lt.mp e4) (UInt8.not_lt.mp e1)
        subst this
        by_cases e2 : x < z
        · rw [if_pos e2]
        · rw [if_neg e2] at h2 ⊢
          by_cases e3 : z < x
          · rw [if_pos e3] at h2; cases h2
          · rw [if_neg e3] at h2 ⊢
            exact blt_trans a b c h1 h2
theorem neg_of {α : Type} {lt : α → α → Bool} (tr : ∀ a b c, lt a b = true → lt b c = true → lt a c = true) (tt : ∀ a b, lt a b = false → lt b a = false → a = b) (a b c : α) (h : lt a c = true) : lt a b = true ∨ lt b c = true := by
  cases e : lt a b with
  | true => exact .inl rfl
  | false =>
    right
    cases e2 : lt b a with
    | true => exact tr b a c e2 h
    | false => rw [← tt a b e e2]; exact h
/-- pairs of rows -/
noncomputable abbrev PB := List UInt8 × List UInt8
noncomputable def plt (a b : PB) : Bool := if a.1 = b.1 then blt a.2 b.2 else blt a.1 b.1
theorem plt_total (a b : PB) (h1 : plt a b = false) (h2 : plt b a = false) : a = b := by
  unfold plt at h1 h2
  by_cases e : a.1 = b.1
  · rw [if_pos e] at h1
    rw [if_pos e.symm] at h2
    exact Prod.ext e (blt_total _ _ h1 h2)
  · rw [if_neg e] at h1
    rw [if_neg (fun q => e q.symm)] at h2
    exact absurd (blt_total _ _ h1 h2) e
theorem plt_trans (a b c : PB) (h1 : plt a b = true) (h2 : plt b c = true) : plt a c = true := by
  unfold plt at h1 h2 ⊢
  by_cases e1 : a.1 = b.1
  · rw [if_pos e1] at h1
    by_cases e2 : b.1 = c.1
    · rw [if_pos e2] at h2
      rw [if_pos (e1.trans e2)]
      exact blt_trans _ _ _ h1 h2
    · rw [if_neg e2] at h2
      rw [if_neg (fun q => e2 (e1 ▸ q)), e1]
      exact h2
  · rw [if_neg e1] at h1
    by_cases e2 : b.1 = c.1
    · rw [if_neg (fun q => e1 (q.trans e2.symm)), ← e2]
      exact h1
    · rw [if_neg e2] at h2
      have h3 := blt_trans _ _ _ h1 h2
      have : a.1 ≠ c.1 := fun q => by rw [q, blt_irrefl] at h3; cases h3
      rw [if_neg this]
      exact h3
noncomputable def OP : KeyOrd where
  α := PB
  blt := plt
  irrefl := fun a => by unfold plt; rw [if_pos rfl]; exact blt_irrefl _
  trans := plt_trans
  negTrans := neg_of plt_trans plt_total
  total := plt_total
/-- the shortest part that makes the row by being told over -/
noncomputable def perF (row : List UInt8) : Nat := (((List.range row.length).map (· + 1)).filter fun d => row.length % d == 0 && (List.replicate (row.length / d) (row.take d)).flatten == row).headD 1
noncomputable def minB (rows : List (List UInt8)) : List UInt8 := rows.foldl (fun m r => if blt r m then r else m) (rows.headD [])
noncomputable def turnsF (row : List UInt8) : List (List UInt8) := (List.range (perF row)).map fun k => (row.take (perF row)).drop k ++ row.take k
noncomputable def rootF (row : List UInt8) : List UInt8 := minB (turnsF row)
noncomputable def toldL (rows : List (List UInt8)) : List (List UInt8) := rows.flatMap fun row => List.replicate (row.length / perF row) (rootF row)
theorem minB_le : ∀ (l : List (List UInt8)) (m : List UInt8), (∀ r, r ∈ l ∨ r = m → blt r (l.foldl (fun m r => if blt r m then r else m) m) = false) ∧ (l.foldl (fun m r => if blt r m then r else m) m ∈ l ∨ l.foldl (fun m r => if blt r m then r else m) m = m)
  | [], m => ⟨fun r h => by rcases h with h | h; · exact absurd h (by simp)
                            · subst h; exact blt_irrefl _, .inr rfl⟩
  | x :: l, m => by
    simp only [List.foldl_cons]
    have ih := minB_le l (if blt x m then x else m)
    generalize e : l.foldl (fun m r => if blt r m then r else m) (if blt x m then x else m) = z at ih ⊢
    cases hb : blt x m with
    | true =>
      simp only [hb, if_true] at ih
      refine ⟨fun r h => ?_, ?_⟩
      · rcases h with h | h
        · rcases List.mem_cons.mp h with rfl | h
          · exact ih.1 _ (.inr rfl)
          · exact ih.1 r (.inl h)
        · subst h
          cases hr : blt r z with
          | false => rfl
          | true => have := blt_trans _ _ _ hb hr; rw [ih.1 x (.inr rfl)] at this; cases this
      · rcases ih.2 with h | h
        · exact .inl (.tail _ h)
        · exact .inl (h ▸ .head _)
    | false =>
      simp only [hb, Bool.false_eq_true, if_false] at ih
      refine ⟨fun r h => ?_, ?_⟩
      · rcases h with h | h
        · rcases List.mem_cons.mp h with rfl | h
          · cases hr : blt r z with
            | false => rfl
            | true =>
              rcases neg_of blt_trans blt_total r m z hr with q | q
              · rw [hb] at q; cases q
              · rw [ih.1 m (.inr rfl)] at q; cases q
          · exact ih.1 r (.inl h)
        · exact ih.1 r (.inr h)
      · rcases ih.2 with h | h
        · exact .inl (.tail _ h)
        · exact .inr h
theorem minB_is {rows : List (List UInt8)} {r : List UInt8} (hr : r ∈ rows) (hl : ∀ a ∈ rows, blt a r = false) : r = minB rows := by
  have hm := minB_le rows (rows.headD [])
  have hmem : minB rows ∈ rows := by
    rcases hm.2 with h | h
    · exact h
    · cases rows with
      | nil => cases hr
      | cons a t => unfold minB; rw [h]; exact .head _
  exact blt_total _ _ (hm.1 r (.inl hr)) (hl _ hmem)
end Mine
end

section
namespace Mine
noncomputable def alts : List (UInt8 × UInt8) := [(43, 47), (34, 32), (92, 34), (10, 92), (32, 10), (45, 95)]
/-- the two signs of the law, by the sum of its numbers -/
noncomputable def altF (total : Int) : UInt8 × UInt8 := alts.getD (total.fmod 6).toNat (43, 47)
noncomputable def digitF (n : Int) (j : Nat) : Int := ([190, 251, 255] : List Int).getD (((n.fdiv 6).fdiv (3 ^ j)).fmod 3).toNat 190
noncomputable def rootI (n : Int) : List Int := (List.range (1 + (n.fdiv 2).fmod 3).toNat).map (digitF n)
/-- the row that a number tells -/
noncomputable def rowN (n : Int) : List UInt8 := ((List.replicate (1 + n.fmod 2).toNat (rootI n)).flatten).map fun i => i.toNat.toUInt8
noncomputable def bagF (ns : List Int) : List (List UInt8) := [251, 190, 251, 190] :: ns.map rowN
noncomputable def sizeF (rows : List (List UInt8)) : Nat := (rows.map List.length).sum
noncomputable def rotF (t : Int) (ring : List UInt8) : List UInt8 := ring.drop (t.fmod (ring.length : Int)).toNat ++ ring.take (t.fmod (ring.length : Int)).toNat
/-- the rings turned, the last first -/
noncomputable def turnedF (total : Int) (rings : List (List UInt8)) : List (List UInt8) := (List.range rings.length).map fun (k : Nat) => rotF (total + (k : Int)) (rings.getD (rings.length - 1 - k) [])
end Mine
end

section
set_option linter.unusedVariables false
namespace Mine
/-- a total order, told by its less-than -/
structure TO {α : Type} (lt : α → α → Bool) : Prop where
  irrefl : ∀ a, lt a a = false
  trans : ∀ a b c, lt a b = true → lt b c = true → lt a c = true
  total : ∀ a b, lt a b = false → lt b a = false → a = b
section
variable {α : Type} {lt : α → α → Bool}
theorem TO.asymm (O : TO lt) {a b : α} (h : lt a b = true) : lt b a = false := by
  cases e : lt b a with
  | false => rfl
  | true => have := O.trans _ _ _ h e; rw [O.irrefl] at this; cases this
theorem TO.le_trans (O : TO lt) {a b c : α} (h1 : lt b a = false) (h2 : lt c b = false) : lt c a = false := by
  cases e : lt c a with
  | false => rfl
  | true =>
    cases e2 : lt a b with
    | true => have := O.trans _ _ _ e e2; rw [h2] at this; cases this
    | false => have := O.total _ _ e2 h1; subst this; rw [h2] at e; cases e
variable [Inhabited α]
noncomputable abbrev at' (l : List α) (i : Nat) : α := l.getD i default
theorem at_set {l : List α} {i j : Nat} {a : α} (hi : i < l.length) : at' (l.set i a) j = if i = j then a else at' l j := by
  unfold at'
  rw [List.getD_eq_getElem?_getD, List.getD_eq_getElem?_getD, List.getElem?_set]
  split
  · rfl
  · rfl
theorem at_eq {l : List α} {i : Nat} (h : i < l.length) : at' l i = l[i] := by
  unfold at'; rw [List.getD_eq_getElem?_getD, List.getElem?_eq_getElem h]; rfl
variable (lt)
noncomputable def HeapFrom (st : Nat) (l : List α) : Prop := ∀ j, 0 < j → j < l.length → st ≤ (j - 1) / 2 → lt (at' l j) (at' l ((j - 1) / 2)) = false
/-- p lies below st -/
inductive Desc (st : Nat) : Nat → Prop
  | here : Desc st st
  | down {p c : Nat} : Desc st p → 0 < c → (c - 1) / 2 = p → Desc st c
variable {lt}
theorem Desc.le {st p : Nat} (h : Desc st p) : st ≤ p := by
  induction h with
  | here => exact Nat.le_refl _
  | down _ h0 e ih => omega
theorem Desc.up {st c : Nat} (h : Desc st c) (hlt : st < c) : Desc st ((c - 1) / 2) := by
  cases h with
  | here => omega
  | down h h0 e => rw [e]; exact h
variable (lt)
/-- all in order but for the hole at p, which x is to fill -/
structure Hole (st : Nat) (x : α) (l : List α) (p : Nat) : Prop where
  edge : ∀ j, 0 < j → j < l.length → st ≤ (j - 1) / 2 → j ≠ p → (j - 1) / 2 ≠ p → lt (at' l j) (at' l ((j - 1) / 2)) = false
  kid : ∀ j, 0 < j → j < l.length → (j - 1) / 2 = p → lt (at' l j) x = false
  grand : ∀ j, 0 < j → j < l.length → (j - 1) / 2 = p → st < p → lt (at' l j) (at' l ((p - 1) / 2)) = false
variable {lt}
theorem Hole.fill {st p : Nat} {x : α} {l : List α} (O : TO lt) (H : Hole lt st x l p) (hp : p < l.length) (hup : 0 < p → st ≤ (p - 1) / 2 → lt x (at' l ((p - 1) / 2)) = false) : HeapFrom lt st (l.set p x) := by
  intro j h0 hj hs
  rw [List.length_set] at hj
  rw [at_set hp, at_set hp]
  by_cases e1 : p = j
  · subst e1
    rw [if_pos rfl, if_neg (by omega)]
    exact hup h0 hs
  · rw [if_neg e1]
    by_cases e2 : p = (j - 1) / 2
    · rw [if_pos e2]
      exact H.kid j h0 hj e2.symm
    · rw [if_neg e2]
      exact H.edge j h0 hj hs (fun e => e1 e.symm) (fun e => e2 e.symm)
theorem sd_heap (O : TO lt) {st : Nat} {x : α} : ∀ (p : Nat) (l : List α), p < l.length → Desc st p → Hole lt st x l p → HeapFrom lt st (sd lt x st l p) := by
  intro p
  induction p using Nat.strongRecOn with
  | _ p ih =>
    intro l hp hd H
    rw [sd]
    by_cases hsp : st < p
    · rw [dif_pos hsp]
      have hq : (p - 1) / 2 < l.length := by omega
      rw [List.getElem?_eq_getElem hq]
      have hq' := at_eq hq
      simp only
      have hds := hd.up hsp
      cases hb : lt x l[(p - 1) / 2] with
      | false =>
        simp only [Bool.false_eq_true, if_false]
        exact H.fill O hp fun _ _ => by rw [hq']; exact hb
      | true =>
        simp only [if_true]
        have hqp : (p - 1) / 2 < p := by omega
        refine ih _ hqp _ (by rw [List.length_set]; exact hq) hds ⟨?_, ?_, ?_⟩
        · intro j h0 hj hs n1 n2
          rw [List.length_set] at hj
          rw [at_set hp, at_set hp]
          by_cases e1 : p = j
          · subst e1; exact absurd rfl n2
          · rw [if_neg e1]
            by_cases e2 : p = (j - 1) / 2
            · rw [if_pos e2, ← hq']
              exact H.grand j h0 hj e2.symm hsp
            · rw [if_neg e2]
              exact H.edge j h0 hj hs (fun e => e1 e.symm) (fun e => e2 e.symm)
        · intro j h0 hj e
          rw [List.length_set] at hj
          rw [at_set hp]
          by_cases e1 : p = j
          · rw [if_pos e1]; exact O.asymm hb
          · rw [if_neg e1]
            have h1 := H.edge j h0 hj (by rw [e]; exact hds.le) (fun q => e1 q.symm) (by omega)
            rw [e, hq'] at h1
            exact O.le_trans (O.asymm hb) h1
        · intro j h0 hj e hs
          rw [List.length_set] at hj
          rw [at_set hp, at_set hp, if_neg (show ¬ p = ((p - 1) / 2 - 1) / 2 by omega)]
          have h2 := H.edge ((p - 1) / 2) (by omega) hq (by have := (hds.up hs).le; omega) (by omega) (by omega)
          by_cases e1 : p = j
          · rw [if_pos e1, ← hq']; exact h2
          · rw [if_neg e1]
            have h1 := H.edge j h0 hj (by rw [e]; exact hds.le) (fun q => e1 q.symm) (by omega)
            rw [e] at h1
            exact O.le_trans h2 h1
    · rw [dif_neg hsp]
      have := hd.le
      exact H.fill O hp fun h0 hs => by omega
/-- the way down leaves a hole at a leaf -/
theorem su_heap (O : TO lt) {st : Nat} {x : α} : ∀ (n : Nat) (l : List α) (p : Nat), l.length - p = n → p < l.length → Desc st p →
    (∀ j, 0 < j → j < l.length → st ≤ (j - 1) / 2 → j ≠ p → (j - 1) / 2 ≠ p → lt (at' l j) (at' l ((j - 1) / 2)) = false) →
    (∀ j, 0 < j → j < l.length → (j - 1) / 2 = p → st < p → lt (at' l j) (at' l ((p - 1) / 2)) = false) →
    Hole lt st x (su lt l p).1 (su lt l p).2 ∧ Desc st (su lt l p).2 ∧ (su lt l p).2 < l.length := by
  intro n
  induction n using Nat.strongRecOn with
  | _ n ih =>
    intro l p hn hp hd he hg
    have step : ∀ c, (c - 1) / 2 = p → p < c → c < l.length → (∀ j, 0 < j → j < l.length → (j - 1) / 2 = p → lt (at' l j) (at' l c) = false) →
        Hole lt st x (su lt (l.set p (at' l c)) c).1 (su lt (l.set p (at' l c)) c).2 ∧ Desc st (su lt (l.set p (at' l c)) c).2 ∧ (su lt (l.set p (at' l c)) c).2 < l.length := by
      intro c hc hpc hcl hmin
      have := ih (l.length - c) (by omega) (l.set p (at' l c)) c (by rw [List.length_set]) (by rw [List.length_set]; exact hcl) (.down hd (by omega) hc) ?_ ?_
      · rw [List.length_set] at this; exact this
      · intro j h0 hj hs n1 n2
        rw [List.length_set] at hj
        rw [at_set hp, at_set hp]
        by_cases e1 : p = j
        · subst e1
          rw [if_pos rfl, if_neg (by omega)]
          by_cases hsp : st < p
          · exact hg c (by omega) hcl hc hsp
          · have := hd.le; omega
        · rw [if_neg e1]
          by_cases e2 : p = (j - 1) / 2
          · rw [if_pos e2]
            exact hmin j h0 hj e2.symm
          · rw [if_neg e2]
            exact he j h0 hj hs (fun e => e1 e.symm) (fun e => e2 e.symm)
      · intro j h0 hj e hs
        rw [List.length_set] at hj
        rw [at_set hp, at_set hp, if_neg (by omega), hc, if_pos rfl]
        have h1 := he j h0 hj (by have := hd.le; omega) (by omega) (by omega)
        rw [e] at h1; exact h1
    rw [su]
    by_cases h1 : 2 * p + 1 < l.length
    · rw [dif_pos h1]
      by_cases h2 : 2 * p + 2 < l.length
      · rw [dif_pos h2, ← at_eq h1, ← at_eq h2]
        have kids : ∀ j, 0 < j → (j - 1) / 2 = p → j = 2 * p + 1 ∨ j = 2 * p + 2 := fun j h0 e => by omega
        cases hb : lt (at' l (2 * p + 1)) (at' l (2 * p + 2)) with
        | true =>
          simp only [if_true]
          refine step (2 * p + 1) (by omega) (by omega) h1 fun j h0 hj e => ?_
          rcases kids j h0 e with rfl | rfl
          · exact O.irrefl _
          · exact O.asymm hb
        | false =>
          simp only [Bool.false_eq_true, if_false]
          refine step (2 * p + 2) (by omega) (by omega) h2 fun j h0 hj e => ?_
          rcases kids j h0 e with rfl | rfl
          · exact hb
          · exact O.irrefl _
      · rw [dif_neg h2, ← at_eq h1]
        refine step (2 * p + 1) (by omega) (by omega) h1 fun j h0 hj e => ?_
        have : j = 2 * p + 1 := by omega
        subst this; exact O.irrefl _
    · rw [dif_neg h1]
      exact ⟨⟨he, fun j h0 hj e => by dsimp only at hj e; omega, hg⟩, hd, hp⟩
theorem siftup_heap (O : TO lt) {l : List α} {p : Nat} (h : HeapFrom lt (p + 1) l) : HeapFrom lt p (siftup lt l p) := by
  unfold siftup
  cases e : l[p]? with
  | none =>
    intro j h0 hj hs
    have := List.getElem?_eq_none_iff.mp e
    dsimp only at hj
    omega
  | some x =>
    have hp := (List.getElem?_eq_some_iff.mp e).1
    obtain ⟨H, D, hl⟩ := su_heap O (x := x) (l.length - p) l p rfl hp .here (fun j h0 hj hs n1 n2 => h j h0 hj (by omega)) (fun j h0 hj e hs => by omega)
    have hl' : (su lt l p).2 < (su lt l p).1.length := by rw [su_length]; exact hl
    refine sd_heap O _ _ (by rw [List.length_set]; exact hl') D ⟨?_, ?_, ?_⟩
    · intro j h0 hj hs n1 n2
      rw [List.length_set] at hj
      rw [at_set hl', at_set hl', if_neg (fun e => n1 e.symm), if_neg (fun e => n2 e.symm)]
      exact H.edge j h0 hj hs n1 n2
    · intro j h0 hj e
      rw [List.length_set] at hj
      rw [at_set hl', if_neg (by omega)]
      exact H.kid j h0 hj e
    · intro j h0 hj e hs
      rw [List.length_set] at hj
      rw [at_set hl', at_set hl', if_neg (by omega), if_neg (by omega)]
      exact H.grand j h0 hj e hs
theorem heapify_heap (O : TO lt) (l : List α) : HeapFrom lt 0 (heapifyF lt l) := by
  unfold heapifyF
  have all : ∀ (n : Nat) (l : List α), HeapFrom lt n l → HeapFrom lt 0 ((List.range n).reverse.foldl (siftup lt) l) := by
    intro n
    induction n with
    | zero => intro l h; exact h
    | succ n ih =>
      intro l h
      rw [List.range_succ, List.reverse_append]
      exact ih _ (siftup_heap O h)
  exact all _ _ fun j h0 hj hs => by omega
theorem hpush_heap (O : TO lt) {l : List α} {k : α} (h : HeapFrom lt 0 l) : HeapFrom lt 0 (hpush lt l k) := by
  unfold hpush
  have hd : ∀ p, Desc 0 p := by
    intro p
    induction p using Nat.strongRecOn with
    | _ p ih =>
      rcases Nat.eq_zero_or_pos p with rfl | hp
      · exact .here
      · exact .down (ih ((p - 1) / 2) (by omega)) hp rfl
  have ha : ∀ j, j < l.length → at' (l ++ [k]) j = at' l j := fun j hj => by
    unfold at'; rw [List.getD_eq_getElem?_getD, List.getD_eq_getElem?_getD, List.getElem?_append_left hj]
  refine sd_heap O _ _ (by simp) (hd _) ⟨?_, ?_, ?_⟩
  · intro j h0 hj hs n1 n2
    simp only [List.length_append, List.length_singleton] at hj
    rw [ha j (by omega), ha _ (by omega)]
    exact h j h0 (by omega) hs
  · intro j h0 hj e
    simp only [List.length_append, List.length_singleton] at hj
    omega
  · intro j h0 hj e hs
    simp only [List.length_append, List.length_singleton] at hj
    omega
theorem foldl_hpush_heap (O : TO lt) : ∀ (ks l : List α), HeapFrom lt 0 l → HeapFrom lt 0 (ks.foldl (hpush lt) l)
  | [], l, h => h
  | k :: r, l, h => foldl_hpush_heap O r _ (hpush_heap O h)
theorem root_min (O : TO lt) {l : List α} (h : HeapFrom lt 0 l) : ∀ j, j < l.length → lt (at' l j) (at' l 0) = false := by
  intro j
  induction j using Nat.strongRecOn with
  | _ j ih =>
    intro hj
    rcases Nat.eq_zero_or_pos j with rfl | h0
    · exact O.irrefl _
    · exact O.le_trans (ih ((j - 1) / 2) (by omega) (by omega)) (h j h0 hj (Nat.zero_le _))
theorem hrest_heap (O : TO lt) {l : List α} (h : HeapFrom lt 0 l) : HeapFrom lt 0 (hrest lt l) := by
  rcases List.eq_nil_or_concat l with rfl | ⟨i, y, rfl⟩
  · intro j _ hj _; simp [hrest] at hj
  · rw [List.concat_eq_append] at h ⊢
    rw [show hrest lt (i ++ [y]) = siftup lt (i.set 0 y) 0 by unfold hrest; simp]
    refine siftup_heap O fun j h0 hj hs => ?_
    rw [List.length_set] at hj
    rw [at_set (by omega), at_set (by omega), if_neg (by omega), if_neg (by omega)]
    have h1 := h j h0 (by simp; omega) (Nat.zero_le _)
    have ha : ∀ k, k < i.length → at' (i ++ [y]) k = at' i k := fun k hk => by
      unfold at'; rw [List.getD_eq_getElem?_getD, List.getD_eq_getElem?_getD, List.getElem?_append_left hk]
    rw [ha j hj, ha _ (by omega)] at h1
    exact h1
theorem hrest_perm {l : List α} (hne : l ≠ []) : l.Perm (l.headD default :: hrest lt l) := by
  rcases List.eq_nil_or_concat l with rfl | ⟨i, y, rfl⟩
  · exact absurd rfl hne
  · rw [List.concat_eq_append]
    rw [show hrest lt (i ++ [y]) = siftup lt (i.set 0 y) 0 by unfold hrest; simp]
    cases i with
    | nil =>
      have : siftup lt (([] : List α).set 0 y) 0 = [] := by
        have := (siftup_perm lt (([] : List α).set 0 y) 0).length_eq
        exact List.length_eq_zero_iff.mp this
      rw [this]
      exact .refl _
    | cons a r =>
      show (a :: (r ++ [y])).Perm (a :: siftup lt (y :: r) 0)
      refine .cons _ (((List.perm_append_comm).trans (.refl _)).trans (siftup_perm lt (y :: r) 0).symm)
omit [Inhabited α] in
theorem restN_rest (l : List α) : ∀ i, restN lt (i + 1) l = restN lt i (hrest lt l)
  | 0 => rfl
  | i + 1 => by rw [restN, restN_rest l i]; rfl
/-- what comes off a heap is in order -/
theorem popK_sorted (O : TO lt) : ∀ (n : Nat) (l : List α), l.length = n → HeapFrom lt 0 l → (popK lt l n).Perm l ∧ (popK lt l n).Pairwise (fun a b => lt b a = false)
  | 0, l, hl, _ => by rw [List.length_eq_zero_iff.mp hl]; exact ⟨.refl _, .nil⟩
  | n + 1, l, hl, h => by
    have hne : l ≠ [] := fun e => by rw [e] at hl; cases hl
    have hp := hrest_perm (lt := lt) hne
    have hl' : (hrest lt l).length = n := by rw [hrest_length, hl]; rfl
    obtain ⟨ih1, ih2⟩ := popK_sorted O n (hrest lt l) hl' (hrest_heap O h)
    have e : popK lt l (n + 1) = l.headD default :: popK lt (hrest lt l) n := by
      unfold popK
      rw [List.range_succ_eq_map, List.map_cons, List.map_map]
      congr 1
      exact List.map_congr_left fun i _ => by rw [Function.comp, restN_rest]
    rw [e]
    refine ⟨(ih1.cons _).trans hp.symm, List.pairwise_cons.mpr ⟨fun b hb => ?_, ih2⟩⟩
    have hb' : b ∈ l := hp.mem_iff.mpr (.tail _ (ih1.mem_iff.mp hb))
    obtain ⟨j, hj, rfl⟩ := List.mem_iff_getElem.mp hb'
    have := root_min O h j hj
    rw [at_eq hj] at this
    have e0 : at' l 0 = l.headD default := by cases l <;> rfl
    rw [e0] at this
    exact this
end
theorem sorted_unique {α : Type} {lt : α → α → Bool} (O : TO lt) : ∀ {a b : List α}, a.Perm b → a.Pairwise (fun x y => lt y x = false) → b.Pairwise (fun x y => lt y x = false) → a = b
  | [], b, p, _, _ => (List.Perm.nil_eq p)
  | x :: a, [], p, _, _ => absurd p.length_eq (by simp)
  | x :: a, y :: b, p, ha, hb => by
    have h1 := List.pairwise_cons.mp ha
    have h2 := List.pairwise_cons.mp hb
    have e : x = y := by
      have hx : x ∈ y :: b := p.mem_iff.mp (.head _)
      have hy : y ∈ x :: a := p.mem_iff.mpr (.head _)
      rcases List.mem_cons.mp hx with e | hx
      · exact e
      · rcases List.mem_cons.mp hy with e | hy
        · exact e.symm
        · exact O.total _ _ (h2.1 x hx) (h1.1 y hy)
    subst e
    rw [sorted_unique O (List.Perm.cons_inv p) h1.2 h2.2]
end Mine
end

section
set_option linter.unusedVariables false
namespace Mine
theorem TO_blt : TO blt := ⟨blt_irrefl, blt_trans, blt_total⟩
theorem TO.lex {α β : Type} [DecidableEq α] {l1 : α → α → Bool} {l2 : β → β → Bool} (O1 : TO l1) (O2 : TO l2) : TO (fun a b : α × β => if a.1 = b.1 then l2 a.2 b.2 else l1 a.1 b.1) where
  irrefl := fun a => by simp [O2.irrefl]
  trans := fun a b c h1 h2 => by
    (try dsimp only at h1 h2 ⊢)
    by_cases e1 : a.1 = b.1
    · rw [if_pos e1] at h1
      by_cases e2 : b.1 = c.1
      · rw [if_pos e2] at h2
        rw [if_pos (e1.trans e2)]
        exact O2.trans _ _ _ h1 h2
      · rw [if_neg e2] at h2
        rw [if_neg (fun q => e2 (e1 ▸ q)), e1]
        exact h2
    · rw [if_neg e1] at h1
      by_cases e2 : b.1 = c.1
      · rw [if_neg (fun q => e1 (q.trans e2.symm)), ← e2]
        exact h1
      · rw [if_neg e2] at h2
        have h3 := O1.trans _ _ _ h1 h2
        rw [if_neg (fun q => by rw [q, O1.irrefl] at h3; cases h3)]
        exact h3
  total := fun a b h1 h2 => by
    (try dsimp only at h1 h2)
    by_cases e : a.1 = b.1
    · rw [if_pos e] at h1
      rw [if_pos e.symm] at h2
      exact Prod.ext e (O2.total _ _ h1 h2)
    · rw [if_neg e] at h1
      rw [if_neg (fun q => e q.symm)] at h2
      exact absurd (O1.total _ _ h1 h2) e
theorem TO_int : TO (fun a b : Int => decide (a < b)) where
  irrefl := fun a => by simp
  trans := fun a b c h1 h2 => by simp only [decide_eq_true_eq] at *; omega
  total := fun a b h1 h2 => by simp only [decide_eq_false_iff_not] at *; omega
theorem TO_nat : TO (fun a b : Nat => decide (a < b)) where
  irrefl := fun a => by simp
  trans := fun a b c h1 h2 => by simp only [decide_eq_true_eq] at *; omega
  total := fun a b h1 h2 => by simp only [decide_eq_false_iff_not] at *; omega
theorem TO_klt : TO klt := TO_blt.lex TO_int
theorem TO_kltI : TO kltI := TO_int.lex TO_int
theorem hpush_perm {α : Type} (lt : α → α → Bool) (l : List α) (k : α) : (hpush lt l k).Perm (l ++ [k]) := by
  unfold hpush
  refine (sd_perm lt k 0 (l ++ [k]) l.length (by simp)).trans ?_
  rw [List.set_append_right _ _ (Nat.le_refl _), Nat.sub_self]
  exact .refl _
theorem foldl_hpush_perm {α : Type} (lt : α → α → Bool) : ∀ (ks l : List α), (ks.foldl (hpush lt) l).Perm (l ++ ks)
  | [], l => by simp
  | k :: r, l => by
    rw [List.foldl_cons]
    refine (foldl_hpush_perm lt r _).trans ?_
    refine ((hpush_perm lt l k).append_right r).trans ?_
    rw [List.append_assoc]
    exact .refl _
theorem column_of {rows : List (List UInt8)} {N : Nat} {K : List Key} (hK : K.Perm (allKeys rows N)) (hs : K.Pairwise (fun a b => klt b a = false)) (hN : (allKeys rows N).length = N) : columnF rows N = K.map (·.2) := by
  have hp := foldl_hpush_perm klt (allKeys rows N) []
  rw [List.nil_append] at hp
  have hl : (colHeap rows N).length = N := hp.length_eq.trans hN
  have hh : HeapFrom klt 0 (colHeap rows N) := foldl_hpush_heap TO_klt _ [] fun j _ hj _ => by simp at hj
  obtain ⟨h1, h2⟩ := popK_sorted TO_klt N _ hl hh
  unfold columnF
  rw [sorted_unique TO_klt (h1.trans (hp.trans hK.symm)) h2 hs]
theorem ord_of {col : List Int} {L : List KeyI} (hL : L.Perm (pairsF col)) (hs : L.Pairwise (fun a b => kltI b a = false)) : ordF col = L := by
  have hp := heapifyF_perm kltI (pairsF col)
  have hl : (heapifyF kltI (pairsF col)).length = col.length := hp.length_eq.trans (by simp [pairsF])
  obtain ⟨h1, h2⟩ := popK_sorted TO_kltI col.length _ hl (heapify_heap TO_kltI _)
  exact sorted_unique TO_kltI (h1.trans (hp.trans hL.symm)) h2 hs
/-- the letter n behind place j of the endless word -/
noncomputable def W (u : List UInt8) (j n : Nat) : UInt8 := u.getD ((j + n) % u.length) 0
noncomputable def rot (u : List UInt8) (j : Nat) : List UInt8 := u.drop j ++ u.take j
noncomputable def V (N : Nat) (u : List UInt8) (j : Nat) : List UInt8 := (List.range N).map (W u j)
theorem rep_get (v : List UInt8) : ∀ (m n : Nat), n < m * v.length → ((List.replicate m v).flatten)[n]? = v[n % v.length]?
  | 0, n, h => by simp at h
  | m + 1, n, h => by
    rw [List.replicate_succ, List.flatten_cons]
    by_cases hn : n < v.length
    · rw [List.getElem?_append_left hn, Nat.mod_eq_of_lt hn]
    · rw [List.getElem?_append_right (by omega), rep_get v m (n - v.length) (by rw [Nat.succ_mul] at h; omega), Nat.mod_eq_sub_mod (show n ≥ v.length by omega)]
theorem rot_length {u : List UInt8} {j : Nat} (hj : j ≤ u.length) : (rot u j).length = u.length := by unfold rot; simp; omega
theorem rot_get {u : List UInt8} {j x : Nat} (hj : j ≤ u.length) (hx : x < u.length) : (rot u j)[x]? = u[(j + x) % u.length]? := by
  unfold rot
  by_cases h : j + x < u.length
  · rw [List.getElem?_append_left (by simp; omega), List.getElem?_drop, Nat.mod_eq_of_lt h]
  · rw [List.getElem?_append_right (by simp; omega), List.getElem?_take, List.length_drop, if_pos (by omega), Nat.mod_eq_sub_mod (by omega), Nat.mod_eq_of_lt (by omega)]
    congr 1; omega
theorem cut_get {v : List UInt8} {N n : Nat} (hv : v ≠ []) (hn : n < N) : (cut v N)[n]? = v[n % v.length]? := by
  unfold cut
  have := List.length_pos_iff.mpr hv
  rw [List.getElem?_take, if_pos hn, rep_get v N n (Nat.lt_of_lt_of_le hn (Nat.le_mul_of_pos_right _ this))]
theorem cut_length {v : List UInt8} {N : Nat} (hv : v ≠ []) : (cut v N).length = N := by
  unfold cut
  have := List.length_pos_iff.mpr hv
  rw [List.length_take, List.length_flatten, List.map_replicate, List.sum_replicate_nat]
  exact Nat.min_eq_left (Nat.le_mul_of_pos_right _ this)
theorem cut_rot {u : List UInt8} {j N : Nat} (hu : u ≠ []) (hj : j ≤ u.length) : cut (rot u j) N = V N u j := by
  have hp := List.length_pos_iff.mpr hu
  have hl := rot_length hj
  have hne : rot u j ≠ [] := fun e => by rw [e] at hl; simp at hl; omega
  apply List.ext_getElem?
  intro n
  by_cases hn : n < N
  · rw [cut_get hne hn, hl, rot_get hj (Nat.mod_lt _ hp)]
    unfold V W
    rw [List.getElem?_map, List.getElem?_range hn, Nat.add_mod_mod]
    simp only [Option.map_some]
    rw [List.getD_eq_getElem?_getD, List.getElem?_eq_getElem (Nat.mod_lt _ hp)]
    rfl
  · rw [List.getElem?_eq_none (by rw [cut_length hne]; omega), List.getElem?_eq_none (by unfold V; simp; omega)]
theorem cut_self {u : List UInt8} {N : Nat} (hu : u ≠ []) : cut u N = V N u 0 := by
  rw [← cut_rot hu (Nat.zero_le _)]; unfold rot; simp
theorem keyAt_eq {u : List UInt8} {N j : Nat} (hu : u ≠ []) (hj : j ≤ u.length) : keyAt u N j = (V N u j, ((W u (j + u.length - 1) 0).toNat : Int)) := by
  unfold keyAt
  rw [← cut_rot hu hj]
  rfl
theorem blt_append : ∀ {a b : List UInt8} (x y : List UInt8), a.length = b.length → blt a b = true → blt (a ++ x) (b ++ y) = true
  | [], [], _, _, _, h => by simp [blt] at h
  | [], _ :: _, _, _, h, _ => by simp at h
  | _ :: _, [], _, _, h, _ => by simp at h
  | p :: a, q :: b, x, y, hl, h => by
    rw [List.cons_append, List.cons_append, blt_cons]
    rw [blt_cons] at h
    by_cases e1 : p < q
    · rw [if_pos e1]
    · rw [if_neg e1] at h ⊢
      by_cases e2 : q < p
      · rw [if_pos e2] at h; cases h
      · rw [if_neg e2] at h ⊢
        exact blt_append x y (by simpa using hl) h
theorem V_cons {N : Nat} {u : List UInt8} {j : Nat} : V (N + 1) u j = W u j 0 :: (List.range N).map fun n => W u j (n + 1) := by
  unfold V
  rw [List.range_succ_eq_map, List.map_cons, List.map_map]
  rfl
theorem W_shift {u : List UInt8} {j n : Nat} : W u ((j + 1) % u.length) n = W u j (n + 1) := by
  unfold W
  rw [Nat.mod_add_mod, show j + 1 + n = j + (n + 1) by omega]
theorem V_shift {N : Nat} {u : List UInt8} {j : Nat} : V (N + 1) u ((j + 1) % u.length) = ((List.range N).map fun n => W u j (n + 1)) ++ [W u j (N + 1)] := by
  unfold V
  rw [List.range_succ, List.map_append, List.map_singleton, W_shift]
  congr 1
  exact List.map_congr_left fun n _ => W_shift
theorem W_period {u : List UInt8} {j n : Nat} : W u j (n + u.length) = W u j n := by
  unfold W
  rw [show j + (n + u.length) = j + n + u.length by omega, Nat.add_mod_right]
theorem V_get {N : Nat} {u v : List UInt8} {j k : Nat} (h : V N u j = V N v k) {n : Nat} (hn : n < N) : W u j n = W v k n := by
  have := congrArg (fun l : List UInt8 => l[n]?) h
  unfold V at this
  simpa [List.getElem?_range hn] using this
/-- two words that are one to the cut, as long as both their periods: they go on as one, and come from one letter -/
theorem wilf {N : Nat} {u v : List UInt8} {j k : Nat} (hu : u ≠ []) (hv : v ≠ []) (h : V N u j = V N v k) (hN : u.length + v.length ≤ N) :
    W u j N = W v k N ∧ W u (j + u.length - 1) 0 = W v (k + v.length - 1) 0 := by
  have hp := List.length_pos_iff.mpr hu
  have hq := List.length_pos_iff.mpr hv
  have eq : ∀ {n}, n < N → W u j n = W v k n := fun hn => V_get h hn
  have pu : ∀ n m, m = n + u.length → W u j m = W u j n := fun n m e => e ▸ W_period
  have pv : ∀ n m, m = n + v.length → W v k m = W v k n := fun n m e => e ▸ W_period
  constructor
  · rw [pu (N - u.length) N (by omega), eq (by omega), pv (N - u.length - v.length) (N - u.length) (by omega), ← eq (by omega), ← pu (N - u.length - v.length) (N - v.length) (by omega), eq (by omega), ← pv (N - v.length) N (by omega)]
  · have e1 : W u (j + u.length - 1) 0 = W u j (u.length - 1) := by unfold W; congr 2; omega
    have e2 : W v (k + v.length - 1) 0 = W v k (v.length - 1) := by unfold W; congr 2; omega
    rw [e1, e2, eq (by omega), ← pv (u.length - 1) (u.length + v.length - 1) (by omega), ← eq (by omega), pu (v.length - 1) (u.length + v.length - 1) (by omega), eq (by omega)]
end Mine
end

section
set_option linter.unusedVariables false
namespace Mine
section
variable (T : List (List UInt8)) (N : Nat)
noncomputable abbrev Plc := Nat × Nat
noncomputable abbrev tw (i : Nat) : List UInt8 := T.getD i []
noncomputable def posL : List Plc := (List.range T.length).flatMap fun i => (List.range (tw T i).length).map fun j => (i, j)
noncomputable abbrev vp (p : Plc) : List UInt8 := V N (tw T p.1) p.2
noncomputable def olt (a b : List UInt8 × Nat) : Bool := if a.1 = b.1 then decide (a.2 < b.2) else blt a.1 b.1
noncomputable def vlt (p q : Plc) : Bool := olt (vp T N p, p.1) (vp T N q, q.1)
noncomputable def sg (p : Plc) : Plc := (p.1, (p.2 + 1) % (tw T p.1).length)
noncomputable def cl (p : Plc) : Int := ((W (tw T p.1) (p.2 + (tw T p.1).length - 1) 0).toNat : Int)
structure Rings : Prop where
  ne : ∀ i, i < T.length → tw T i ≠ []
  two : ∀ i i', i < T.length → i' < T.length → i ≠ i' → (tw T i).length + (tw T i').length ≤ N
  le : ∀ i, i < T.length → (tw T i).length ≤ N
  len : (posL T).length = N
  strict : ∀ i, i < T.length → ∀ j, 0 < j → j < (tw T i).length → blt (tw T i) (rot (tw T i) j) = true
  sorted : ∀ i i', i < i' → i' < T.length → blt (V N (tw T i') 0) (V N (tw T i) 0) = false
end
theorem TO_olt : TO olt := TO_blt.lex TO_nat
section
variable {T : List (List UInt8)} {N : Nat}
theorem mem_pos {p : Plc} : p ∈ posL T ↔ p.1 < T.length ∧ p.2 < (tw T p.1).length := by
  unfold posL
  rw [List.mem_flatMap]
  constructor
  · rintro ⟨i, hi, hp⟩
    obtain ⟨j, hj, rfl⟩ := List.mem_map.mp hp
    exact ⟨List.mem_range.mp hi, List.mem_range.mp hj⟩
  · rintro ⟨h1, h2⟩
    exact ⟨p.1, List.mem_range.mpr h1, List.mem_map.mpr ⟨p.2, List.mem_range.mpr h2, rfl⟩⟩
theorem pos_nodup : (posL T).Nodup := by
  refine List.pairwise_flatMap.mpr ⟨fun i _ => List.pairwise_map.mpr ?_, ?_⟩
  · exact (List.nodup_range).imp fun hab e => hab (congrArg Prod.snd e)
  · refine (List.nodup_range).imp fun hab x hx y hy e => hab ?_
    obtain ⟨_, _, rfl⟩ := List.mem_map.mp hx
    obtain ⟨_, _, rfl⟩ := List.mem_map.mp hy
    exact congrArg Prod.fst e
theorem keys_eq (H : Rings T N) : allKeys T N = (posL T).map fun p => (vp T N p, cl T p) := by
  have e : T = (List.range T.length).map (tw T) := by
    apply List.ext_getElem
    · simp
    · intro i h1 h2; simp [tw, h1]
  unfold allKeys posL
  conv => lhs; rw [e]
  rw [List.flatMap_map, List.map_flatMap]
  rw [List.flatMap_def, List.flatMap_def]
  congr 1
  refine List.map_congr_left fun i hi => ?_
  have hi' := List.mem_range.mp hi
  unfold rowKeys
  rw [List.map_map]
  refine List.map_congr_left fun j hj => ?_
  rw [keyAt_eq (H.ne i hi') (Nat.le_of_lt (List.mem_range.mp hj))]
  rfl
theorem sg_mem (H : Rings T N) {p : Plc} (hp : p ∈ posL T) : sg T p ∈ posL T := by
  obtain ⟨h1, h2⟩ := mem_pos.mp hp
  exact mem_pos.mpr ⟨h1, Nat.mod_lt _ (by show 0 < (tw T p.1).length; omega)⟩
theorem turn_inj {u : List UInt8} (hN : u.length ≤ N) (hs : ∀ j, 0 < j → j < u.length → blt u (rot u j) = true) {j j' : Nat} (hj : j < j') (hj' : j' < u.length) : V N u j ≠ V N u j' := by
  intro h
  have hpos : 0 < u.length := by omega
  have hlt := hs (j' - j) (by omega) (by omega)
  have e : u = rot u (j' - j) := by
    apply List.ext_getElem?
    intro x
    by_cases hx : x < u.length
    · rw [rot_get (by omega) hx]
      have h1 := V_get h (n := (x + u.length - j) % u.length) (Nat.lt_of_lt_of_le (Nat.mod_lt _ hpos) hN)
      unfold W at h1
      rw [Nat.add_mod_mod, Nat.add_mod_mod, show j + (x + u.length - j) = x + u.length by omega, Nat.add_mod_right, Nat.mod_eq_of_lt hx, show j' + (x + u.length - j) = (j' - j + x) + u.length by omega, Nat.add_mod_right] at h1
      rw [List.getD_eq_getElem?_getD, List.getD_eq_getElem?_getD, List.getElem?_eq_getElem hx, List.getElem?_eq_getElem (Nat.mod_lt _ hpos)] at h1
      rw [List.getElem?_eq_getElem hx, List.getElem?_eq_getElem (Nat.mod_lt _ hpos)]
      exact congrArg some h1
    · rw [List.getElem?_eq_none (by omega), List.getElem?_eq_none (by rw [rot_length (by omega)]; omega)]
  rw [← e, blt_irrefl] at hlt
  cases hlt
theorem vlt_eq (H : Rings T N) {p q : Plc} (hp : p ∈ posL T) (hq : q ∈ posL T) (h1 : vlt T N p q = false) (h2 : vlt T N q p = false) : p = q := by
  have e := TO_olt.total _ _ h1 h2
  have e1 : p.1 = q.1 := congrArg Prod.snd e
  have e2 : V N (tw T p.1) p.2 = V N (tw T q.1) q.2 := congrArg Prod.fst e
  obtain ⟨a1, a2⟩ := mem_pos.mp hp
  obtain ⟨b1, b2⟩ := mem_pos.mp hq
  rw [← e1] at e2 b2
  have hs := H.strict p.1 a1
  refine Prod.ext e1 ?_
  rcases Nat.lt_trichotomy p.2 q.2 with h | h | h
  · exact absurd e2 (turn_inj (H.le _ a1) hs h b2)
  · exact h
  · exact absurd e2.symm (turn_inj (H.le _ a1) hs h a2)
theorem same_V (H : Rings T N) {p q : Plc} (hp : p ∈ posL T) (hq : q ∈ posL T) (e : vp T N p = vp T N q) (hne : p.1 ≠ q.1) : W (tw T p.1) p.2 N = W (tw T q.1) q.2 N ∧ cl T p = cl T q := by
  obtain ⟨a1, a2⟩ := mem_pos.mp hp
  obtain ⟨b1, b2⟩ := mem_pos.mp hq
  have w := wilf (H.ne _ a1) (H.ne _ b1) e (H.two _ _ a1 b1 hne)
  exact ⟨w.1, by unfold cl; rw [w.2]⟩
theorem cl_sg {p : Plc} (hp : p ∈ posL T) : cl T (sg T p) = ((W (tw T p.1) p.2 0).toNat : Int) := by
  obtain ⟨a1, a2⟩ := mem_pos.mp hp
  have key : ∀ L j : Nat, j < L → ((j + 1) % L + L - 1 + 0) % L = (j + 0) % L := by
    intro L j hj
    by_cases h : j + 1 < L
    · rw [Nat.mod_eq_of_lt h, show j + 1 + L - 1 + 0 = j + L by omega, Nat.add_mod_right, Nat.add_zero]
    · rw [show j + 1 = L by omega, Nat.mod_self, Nat.add_zero, Nat.add_zero, show 0 + L - 1 = j by omega]
  show (((tw T p.1).getD (((p.2 + 1) % (tw T p.1).length + (tw T p.1).length - 1 + 0) % (tw T p.1).length) 0).toNat : Int) = (((tw T p.1).getD ((p.2 + 0) % (tw T p.1).length) 0).toNat : Int)
  rw [key _ _ a2]
theorem vlt_same {p q : Plc} (e : vp T N p = vp T N q) : vlt T N p q = decide (p.1 < q.1) := if_pos e
theorem vlt_diff {p q : Plc} (e : vp T N p ≠ vp T N q) : vlt T N p q = blt (vp T N p) (vp T N q) := if_neg e
theorem vp_sg (p : Plc) : vp T N (sg T p) = V N (tw T p.1) ((p.2 + 1) % (tw T p.1).length) := rfl
/-- the shift keeps the order where the first letters are one -/
theorem shift_lt (H : Rings T N) {p q : Plc} (hp : p ∈ posL T) (hq : q ∈ posL T) (h : vlt T N p q = true) :
    kltI (cl T (sg T q), 0) (cl T (sg T p), 0) = false ∧ (cl T (sg T p) = cl T (sg T q) → vlt T N (sg T p) (sg T q) = true) := by
  obtain ⟨a1, a2⟩ := mem_pos.mp hp
  obtain ⟨b1, b2⟩ := mem_pos.mp hq
  have hN : 0 < N := by have := H.le _ a1; omega
  obtain ⟨M, rfl⟩ : ∃ M, N = M + 1 := ⟨N - 1, by omega⟩
  rw [cl_sg hp, cl_sg hq]
  by_cases e : vp T (M + 1) p = vp T (M + 1) q
  · rw [vlt_same e] at h
    have hlt := of_decide_eq_true h
    have w := (same_V H hp hq e (Nat.ne_of_lt hlt)).1
    have e0 : W (tw T p.1) p.2 0 = W (tw T q.1) q.2 0 := V_get e (by omega)
    refine ⟨by rw [e0]; exact TO_kltI.irrefl _, fun _ => ?_⟩
    rw [vlt_same ?_]
    · exact h
    · rw [vp_sg, vp_sg, V_shift, V_shift, w]
      congr 1
      exact List.map_congr_left fun n hn => V_get e (by have := List.mem_range.mp hn; omega)
  · rw [vlt_diff e] at h
    rw [show vp T (M + 1) p = V (M + 1) _ _ from rfl, show vp T (M + 1) q = V (M + 1) _ _ from rfl, V_cons, V_cons, blt_cons] at h
    by_cases c1 : W (tw T p.1) p.2 0 < W (tw T q.1) q.2 0
    · have c1' : (W (tw T p.1) p.2 0).toNat < (W (tw T q.1) q.2 0).toNat := c1
      refine ⟨?_, fun e => by omega⟩
      unfold kltI
      dsimp only
      rw [if_neg (by omega)]
      exact decide_eq_false (by omega)
    · rw [if_neg c1] at h
      by_cases c2 : W (tw T q.1) q.2 0 < W (tw T p.1) p.2 0
      · rw [if_pos c2] at h; cases h
      · rw [if_neg c2] at h
        have e0 : W (tw T p.1) p.2 0 = W (tw T q.1) q.2 0 := UInt8.le_antisymm (UInt8.not_lt.mp c2) (UInt8.not_lt.mp c1)
        refine ⟨by rw [e0]; exact TO_kltI.irrefl _, fun _ => ?_⟩
        have hb := blt_append [W (tw T p.1) p.2 (M + 1)] [W (tw T q.1) q.2 (M + 1)] (by simp) h
        rw [← V_shift, ← V_shift] at hb
        rw [vlt_diff (fun q => by rw [vp_sg, vp_sg] at q; rw [q, blt_irrefl] at hb; cases hb)]
        exact hb
end
end Mine
end

section
set_option linter.unusedVariables false
namespace Mine
/-- the places in order -/
structure Sorted (T : List (List UInt8)) (N : Nat) (S : List Plc) : Prop where
  perm : S.Perm (posL T)
  lt : S.Pairwise (fun p q => vlt T N p q = true)
section
variable {T : List (List UInt8)} {N : Nat} {S : List Plc}
theorem sorted_ex (H : Rings T N) : ∃ S, Sorted T N S := by
  refine ⟨(posL T).mergeSort (fun p q => !vlt T N q p), List.mergeSort_perm _ _, ?_⟩
  have hp := List.mergeSort_perm (posL T) (fun p q => !vlt T N q p)
  have hs := List.pairwise_mergeSort (le := fun p q => !vlt T N q p) (fun a b c h1 h2 => by
      simp only [Bool.not_eq_true'] at *
      exact TO_olt.le_trans h1 h2) (fun a b => by
      cases e : vlt T N b a with
      | false => simp
      | true => have : vlt T N a b = false := TO_olt.asymm e
                simp [this]) (posL T)
  have hnd : ((posL T).mergeSort (fun p q => !vlt T N q p)).Nodup := hp.nodup_iff.mpr pos_nodup
  refine (hs.and hnd).imp_of_mem ?_
  intro p q hpm hqm ⟨h1, h2⟩
  simp only [Bool.not_eq_true'] at h1
  cases e : vlt T N p q with
  | true => rfl
  | false => exact absurd (vlt_eq H (hp.mem_iff.mp hpm) (hp.mem_iff.mp hqm) e h1) h2
noncomputable abbrev rk (S : List Plc) (p : Plc) : Nat := S.idxOf p
theorem Sorted.nodup (h : Sorted T N S) : S.Nodup := h.perm.nodup_iff.mpr pos_nodup
theorem Sorted.mem (h : Sorted T N S) {p : Plc} : p ∈ S ↔ p ∈ posL T := h.perm.mem_iff
theorem Sorted.rk_lt (h : Sorted T N S) {p : Plc} (hp : p ∈ posL T) : rk S p < S.length := List.idxOf_lt_length_iff.mpr (h.mem.mpr hp)
theorem Sorted.rk_get (h : Sorted T N S) {p : Plc} (hp : p ∈ posL T) : S[rk S p]'(h.rk_lt hp) = p := List.getElem_idxOf (h.rk_lt hp)
theorem Sorted.rk_inj (h : Sorted T N S) {p q : Plc} (hp : p ∈ posL T) (hq : q ∈ posL T) (e : rk S p = rk S q) : p = q := by
  rw [← h.rk_get hp, ← h.rk_get hq]
  simp only [e]
theorem Sorted.mono (h : Sorted T N S) {p q : Plc} (hp : p ∈ posL T) (hq : q ∈ posL T) (hlt : vlt T N p q = true) : rk S p < rk S q := by
  rcases Nat.lt_trichotomy (rk S p) (rk S q) with g | g | g
  · exact g
  · rw [h.rk_inj hp hq g] at hlt
    have : vlt T N q q = false := TO_olt.irrefl _
    rw [this] at hlt; cases hlt
  · have := List.pairwise_iff_getElem.mp h.lt _ _ (h.rk_lt hq) (h.rk_lt hp) g
    rw [h.rk_get hp, h.rk_get hq] at this
    have h2 : vlt T N p q = false := TO_olt.asymm this
    rw [h2] at hlt; cases hlt
theorem col_is (H : Rings T N) (h : Sorted T N S) : columnF T N = S.map (cl T) := by
  have e := keys_eq H
  have hl : (allKeys T N).length = N := by rw [e, List.length_map]; exact H.len
  rw [column_of (K := S.map fun p => (vp T N p, cl T p)) (by rw [e]; exact h.perm.map _) ?_ hl, List.map_map]
  · rfl
  · refine List.pairwise_map.mpr (h.lt.imp_of_mem ?_)
    intro p q hp hq hlt
    have hp' := h.mem.mp hp
    have hq' := h.mem.mp hq
    unfold klt
    dsimp only
    by_cases ev : vp T N p = vp T N q
    · rw [if_pos ev.symm]
      rw [vlt_same ev] at hlt
      rw [(same_V H hp' hq' ev (Nat.ne_of_lt (of_decide_eq_true hlt))).2]
      exact decide_eq_false (by omega)
    · rw [if_neg (fun q => ev q.symm)]
      rw [vlt_diff ev] at hlt
      exact TO_blt.asymm hlt
theorem sg_perm (H : Rings T N) : ((posL T).map (sg T)).Perm (posL T) := by
  unfold posL
  rw [List.map_flatMap]
  have step : ∀ l : List Nat, (∀ i ∈ l, i < T.length) → (l.flatMap fun a => ((List.range (tw T a).length).map fun j => (a, j)).map (sg T)).Perm (l.flatMap fun i => (List.range (tw T i).length).map fun j => (i, j)) := by
    intro l
    induction l with
    | nil => intro _; exact .refl _
    | cons a l ih =>
      intro hl
      rw [List.flatMap_cons, List.flatMap_cons]
      refine List.Perm.append ?_ (ih fun i hi => hl i (.tail _ hi))
      rw [List.map_map]
      have hne := List.length_pos_iff.mpr (H.ne a (hl a (.head _)))
      obtain ⟨M, hM⟩ : ∃ M, (tw T a).length = M + 1 := ⟨(tw T a).length - 1, by omega⟩
      have e : (List.range (M + 1)).map (sg T ∘ fun j => (a, j)) = ((List.range M).map fun j => (a, j + 1)) ++ [(a, 0)] := by
        rw [List.range_succ, List.map_append, List.map_singleton]
        congr 1
        · refine List.map_congr_left fun j hj => ?_
          have := List.mem_range.mp hj
          simp only [Function.comp, sg, hM]
          rw [Nat.mod_eq_of_lt (by omega)]
        · simp only [Function.comp, sg, hM, Nat.mod_self]
      rw [hM, e, List.range_succ_eq_map, List.map_cons, List.map_map]
      exact List.perm_append_comm.trans (.refl _)
  exact step _ fun i hi => List.mem_range.mp hi
noncomputable def ordL (T : List (List UInt8)) (S : List Plc) : List KeyI := S.map fun p => (cl T (sg T p), (rk S (sg T p) : Int))
theorem ord_is (H : Rings T N) (h : Sorted T N S) : ordF (S.map (cl T)) = ordL T S := by
  refine ord_of ?_ ?_
  · have e : pairsF (S.map (cl T)) = S.map fun p => (cl T p, (rk S p : Int)) := by
      unfold pairsF
      apply List.ext_getElem
      · simp
      · intro k h1 h2
        have hk : k < S.length := by simpa using h2
        simp only [List.getElem_map, List.getElem_range]
        rw [List.getD_eq_getElem?_getD, List.getElem?_map, List.getElem?_eq_getElem hk]
        simp only [Option.map_some, Option.getD_some]
        rw [show rk S S[k] = k from h.nodup.idxOf_getElem k hk]
    rw [e]
    have e2 : ordL T S = (S.map (sg T)).map fun p => (cl T p, (rk S p : Int)) := by unfold ordL; rw [List.map_map]; rfl
    rw [e2]
    exact (((h.perm.map (sg T)).trans (sg_perm H)).trans h.perm.symm).map _
  · refine List.pairwise_map.mpr (h.lt.imp_of_mem ?_)
    intro p q hp hq hlt
    have hp' := h.mem.mp hp
    have hq' := h.mem.mp hq
    obtain ⟨s1, s2⟩ := shift_lt H hp' hq' hlt
    unfold kltI at s1 ⊢
    dsimp only at s1 ⊢
    by_cases e : cl T (sg T p) = cl T (sg T q)
    · rw [if_pos e.symm]
      have := h.mono (sg_mem H hp') (sg_mem H hq') (s2 e)
      exact decide_eq_false (by omega)
    · rw [if_neg (fun q => e q.symm)] at s1 ⊢
      exact s1
theorem ord_get (h : Sorted T N S) {p : Plc} (hp : p ∈ posL T) : (ordL T S).getD (rk S p) default = (cl T (sg T p), (rk S (sg T p) : Int)) := by
  unfold ordL
  rw [List.getD_eq_getElem?_getD, List.getElem?_map, List.getElem?_eq_getElem (h.rk_lt hp), h.rk_get hp]
  rfl
noncomputable def ringI (T : List (List UInt8)) (i : Nat) : List Int := (tw T i).map fun x => (x.toNat : Int)
noncomputable def orbit (T : List (List UInt8)) (S : List Plc) (i : Nat) : List Int := (List.range (tw T i).length).map fun j => (rk S (i, j) : Int)
theorem follow_orbit (H : Rings T N) (h : Sorted T N S) {i : Nat} (hi : i < T.length) (seen : List Int) (hs : ∀ j, j < (tw T i).length → (rk S (i, j) : Int) ∉ seen) :
    ∀ d j f, j + d = (tw T i).length → d ≤ f → follow (ordL T S) f (seen ++ (orbit T S i).take j) (rk S (i, j % (tw T i).length) : Int) = (seen ++ orbit T S i, (ringI T i).drop j) := by
  have hpos := List.length_pos_iff.mpr (H.ne i hi)
  have hol : (orbit T S i).length = (tw T i).length := by simp [orbit]
  intro d
  induction d with
  | zero =>
    intro j f e _
    rw [Nat.add_zero] at e
    subst e
    rw [Nat.mod_self, List.take_of_length_le (by omega), List.drop_of_length_le (by simp [ringI])]
    refine follow_in (List.mem_append_right _ ?_)
    exact List.mem_map.mpr ⟨0, List.mem_range.mpr hpos, rfl⟩
  | succ d ih =>
    intro j f e hf
    obtain ⟨f, rfl⟩ : ∃ f', f = f' + 1 := ⟨f - 1, by omega⟩
    have hj : j < (tw T i).length := by omega
    have hm : (i, j) ∈ posL T := mem_pos.mpr ⟨hi, hj⟩
    rw [Nat.mod_eq_of_lt hj]
    have hout : (rk S (i, j) : Int) ∉ seen ++ (orbit T S i).take j := by
      intro hmem
      rcases List.mem_append.mp hmem with q | q
      · exact hs j hj q
      · unfold orbit at q
        rw [← List.map_take, List.take_range] at q
        obtain ⟨j', hj', e'⟩ := List.mem_map.mp q
        have hj'' := List.mem_range.mp hj'
        have := h.rk_inj (mem_pos.mpr ⟨hi, by show j' < (tw T i).length; omega⟩) hm (Int.ofNat_inj.mp e')
        have := congrArg Prod.snd this
        dsimp only at this
        omega
    rw [follow_out hout, Int.toNat_natCast, ord_get h hm]
    have hnext : (seen ++ (orbit T S i).take j) ++ [(rk S (i, j) : Int)] = seen ++ (orbit T S i).take (j + 1) := by
      rw [List.take_add_one, show (orbit T S i)[j]? = some (rk S (i, j) : Int) by unfold orbit; rw [List.getElem?_map, List.getElem?_range hj]; rfl, List.append_assoc]
      rfl
    rw [hnext]
    have := ih (j + 1) f (by omega) (by omega)
    rw [show sg T (i, j) = (i, (j + 1) % (tw T i).length) from rfl]
    dsimp only
    rw [this]
    dsimp only
    have hc : cl T (i, (j + 1) % (tw T i).length) = (((tw T i)[j]).toNat : Int) := by
      have := cl_sg hm
      rw [show sg T (i, j) = (i, (j + 1) % (tw T i).length) from rfl] at this
      rw [this]
      unfold W
      dsimp only
      rw [Nat.add_zero, Nat.mod_eq_of_lt hj, List.getD_eq_getElem?_getD, List.getElem?_eq_getElem hj]
      rfl
    rw [hc]
    congr 1
    have hj2 : j < (ringI T i).length := by simp [ringI]; exact hj
    rw [List.drop_eq_getElem_cons hj2]
    congr 1
    simp [ringI]
end
end Mine
end

section
set_option linter.unusedVariables false
namespace Mine
section
variable {T : List (List UInt8)} {N : Nat} {S : List Plc}
noncomputable def seenM (T : List (List UInt8)) (S : List Plc) (m : Nat) : List Int := (List.range m).flatMap (orbit T S)
theorem seenM_succ (m : Nat) : seenM T S (m + 1) = seenM T S m ++ orbit T S m := by
  unfold seenM; rw [List.range_succ, List.flatMap_append]; simp
theorem seenM_len (m : Nat) : (seenM T S m).length = ((List.range m).map fun i => (tw T i).length).sum := by
  unfold seenM; rw [List.length_flatMap]; congr 1
  exact List.map_congr_left fun i _ => by simp [orbit]
theorem pos_len : (posL T).length = ((List.range T.length).map fun i => (tw T i).length).sum := by
  unfold posL; rw [List.length_flatMap]; congr 1
  exact List.map_congr_left fun i _ => by simp
theorem sum_le_of {m k : Nat} (f : Nat → Nat) (h : m ≤ k) : ((List.range m).map f).sum ≤ ((List.range k).map f).sum := by
  obtain ⟨d, rfl⟩ : ∃ d, k = m + d := ⟨k - m, by omega⟩
  rw [List.range_add, List.map_append, List.sum_append]
  omega
theorem mem_seen (h : Sorted T N S) {i j m : Nat} (hi : i < T.length) (hj : j < (tw T i).length) (hm : m ≤ T.length) : (rk S (i, j) : Int) ∈ seenM T S m ↔ i < m := by
  unfold seenM
  rw [List.mem_flatMap]
  constructor
  · rintro ⟨i', hi', hx⟩
    have hi'' := List.mem_range.mp hi'
    obtain ⟨j', hj', e⟩ := List.mem_map.mp hx
    have := h.rk_inj (mem_pos.mpr ⟨by show i' < T.length; omega, List.mem_range.mp hj'⟩) (mem_pos.mpr ⟨hi, hj⟩) (Int.ofNat_inj.mp e)
    have := congrArg Prod.fst this
    dsimp only at this
    omega
  · intro hlt
    exact ⟨i, List.mem_range.mpr hlt, List.mem_map.mpr ⟨j, List.mem_range.mpr hj, rfl⟩⟩
theorem least_lt (H : Rings T N) {i j : Nat} (hi : i < T.length) (h0 : 0 < j) (hj : j < (tw T i).length) : vlt T N (i, 0) (i, j) = true := by
  have hs := H.strict i hi j h0 hj
  have hle := H.le i hi
  obtain ⟨d, hd⟩ : ∃ d, N = (tw T i).length + d := ⟨N - (tw T i).length, by omega⟩
  have hne := H.ne i hi
  have split : ∀ k, k ≤ (tw T i).length → V N (tw T i) k = rot (tw T i) k ++ (List.range d).map fun n => W (tw T i) k ((tw T i).length + n) := by
    intro k hk
    unfold V
    rw [hd, List.range_add, List.map_append, List.map_map]
    congr 1
    apply List.ext_getElem?
    intro x
    by_cases hx : x < (tw T i).length
    · rw [rot_get hk hx, List.getElem?_map, List.getElem?_range hx]
      unfold W
      simp only [Option.map_some]
      rw [List.getD_eq_getElem?_getD, List.getElem?_eq_getElem (Nat.mod_lt _ (by omega))]
      rfl
    · rw [List.getElem?_eq_none (by rw [List.length_map, List.length_range]; omega), List.getElem?_eq_none (by rw [rot_length hk]; omega)]
  have r0 : rot (tw T i) 0 = tw T i := by unfold rot; simp
  have hb := blt_append ((List.range d).map fun n => W (tw T i) 0 ((tw T i).length + n)) ((List.range d).map fun n => W (tw T i) j ((tw T i).length + n)) (by rw [rot_length (Nat.le_of_lt hj)]) hs
  rw [← split j (Nat.le_of_lt hj)] at hb
  conv at hb => lhs; arg 1; arg 1; rw [← r0]
  rw [← split 0 (Nat.zero_le _)] at hb
  rw [vlt_diff (fun e => by rw [show V N _ _ = V N _ _ from e, blt_irrefl] at hb; cases hb)]
  exact hb
theorem roots_lt (H : Rings T N) {i i' : Nat} (hlt : i < i') (hi : i' < T.length) : vlt T N (i, 0) (i', 0) = true := by
  have hs := H.sorted i i' hlt hi
  by_cases e : vp T N (i, 0) = vp T N (i', 0)
  · rw [vlt_same e]; exact decide_eq_true hlt
  · rw [vlt_diff e]
    cases hb : blt (vp T N (i, 0)) (vp T N (i', 0)) with
    | true => rfl
    | false => exact absurd (blt_total _ _ hb hs) e
theorem rings_fold (H : Rings T N) (h : Sorted T N S) : ∀ k, k ≤ N → ∃ m, m ≤ T.length ∧ (∀ i, i < T.length → (rk S (i, 0) < k ↔ i < m)) ∧
    ((List.range k).map fun (k : Nat) => (k : Int)).foldl (ringStep (ordL T S) N) ([], []) = (seenM T S m, (List.range m).map (ringI T)) := by
  have hSl : S.length = N := h.perm.length_eq.trans H.len
  have hm0 : ∀ {i}, i < T.length → (i, 0) ∈ posL T := fun {i} hi => mem_pos.mpr ⟨hi, List.length_pos_iff.mpr (H.ne i hi)⟩
  intro k
  induction k with
  | zero => exact fun _ => ⟨0, Nat.zero_le _, fun i _ => by omega, rfl⟩
  | succ k ih =>
    intro hk
    obtain ⟨m, hm, hr, hf⟩ := ih (by omega)
    rw [List.range_succ, List.map_append, List.foldl_append, hf]
    simp only [List.map_cons, List.map_nil, List.foldl_cons, List.foldl_nil]
    obtain ⟨i, j, hij⟩ : ∃ i j, S[k]'(by omega) = (i, j) := ⟨_, _, rfl⟩
    have hmem : (i, j) ∈ posL T := h.mem.mp (hij ▸ List.getElem_mem _)
    obtain ⟨hi, hj⟩ : i < T.length ∧ j < (tw T i).length := mem_pos.mp hmem
    have hrk : rk S (i, j) = k := by rw [← hij]; exact h.nodup.idxOf_getElem k _
    by_cases him : i < m
    · refine ⟨m, hm, fun i' hi' => ?_, ?_⟩
      · have := hr i' hi'
        constructor
        · intro hlt
          rcases Nat.lt_or_ge (rk S (i', 0)) k with g | g
          · exact this.mp g
          · have e : rk S (i', 0) = rk S (i, j) := by omega
            have := congrArg Prod.fst (h.rk_inj (hm0 hi') hmem e)
            dsimp only at this
            omega
        · intro hlt; have := this.mpr hlt; omega
      · unfold ringStep
        have hin : (k : Int) ∈ seenM T S m := by rw [← hrk]; exact (mem_seen h hi hj hm).mpr him
        dsimp only
        rw [follow_in hin]
        simp
    · have hj0 : j = 0 := by
        rcases Nat.eq_zero_or_pos j with e | hpos
        · exact e
        · have := h.mono (hm0 hi) hmem (least_lt H hi hpos hj)
          exact absurd ((hr i hi).mp (by omega)) him
      subst hj0
      have hie : i = m := by
        rcases Nat.lt_trichotomy i m with g | g | g
        · exact absurd g him
        · exact g
        · have hmT : m < T.length := by omega
          have := h.mono (hm0 hmT) hmem (roots_lt H g hi)
          have := (hr m hmT).mp (by omega)
          omega
      subst hie
      have hnot : ∀ j', j' < (tw T i).length → (rk S (i, j') : Int) ∉ seenM T S i := fun j' hj' q => by
        have := (mem_seen h hi hj' hm).mp q; omega
      have hlen : (seenM T S i).length + (tw T i).length ≤ N := by
        have e1 := seenM_len (T := T) (S := S) i
        have e2 := sum_le_of (fun i => (tw T i).length) (show i + 1 ≤ T.length from hi)
        rw [List.range_succ, List.map_append, List.sum_append] at e2
        rw [← pos_len, H.len] at e2
        simp only [List.map_cons, List.map_nil, List.sum_cons, List.sum_nil] at e2
        omega
      have hfo := follow_orbit H h hi (seenM T S i) hnot (tw T i).length 0 (N + 1 - (seenM T S i).length) (by omega) (by omega)
      rw [List.take_zero, List.append_nil, Nat.zero_mod, hrk, List.drop_zero] at hfo
      refine ⟨i + 1, hi, fun i' hi' => ?_, ?_⟩
      · have := hr i' hi'
        constructor
        · intro hlt
          rcases Nat.lt_or_ge (rk S (i', 0)) k with g | g
          · have := this.mp g; omega
          · have e : rk S (i', 0) = rk S (i, 0) := by omega
            have := congrArg Prod.fst (h.rk_inj (hm0 hi') hmem e)
            dsimp only at this
            omega
        · intro hlt
          rcases Nat.lt_or_ge i' i with g | g
          · have := this.mpr g; omega
          · have : i' = i := by omega
            subst this; omega
      · unfold ringStep
        dsimp only
        rw [hfo]
        dsimp only
        have hne : ringI T i ≠ [] := fun e => by
          have := congrArg List.length e
          simp only [ringI, List.length_map, List.length_nil] at this
          exact H.ne i hi (List.length_eq_zero_iff.mp this)
        rw [if_neg hne, ← seenM_succ, List.range_succ, List.map_append]
        rfl
theorem rings_are (H : Rings T N) : ringsF (columnF T N) = T := by
  obtain ⟨S, h⟩ := sorted_ex H
  have hSl : S.length = N := h.perm.length_eq.trans H.len
  have hc := col_is H h
  have hcl : (columnF T N).length = N := by rw [hc, List.length_map, hSl]
  obtain ⟨m, hm, hr, hf⟩ := rings_fold H h N (Nat.le_refl _)
  have hmT : m = T.length := by
    rcases Nat.lt_or_ge m T.length with g | g
    · have hp : (m, 0) ∈ posL T := mem_pos.mpr ⟨g, List.length_pos_iff.mpr (H.ne m g)⟩
      have := (hr m g).mp (by rw [← hSl]; exact h.rk_lt hp)
      omega
    · omega
  unfold ringsF ringsI
  rw [hcl, hc, ord_is H h, hf, hmT]
  dsimp only
  rw [List.map_map]
  apply List.ext_getElem
  · simp
  · intro i h1 h2
    simp only [List.getElem_map, List.getElem_range, Function.comp, ringI, List.map_map]
    rw [show tw T i = T[i] by unfold tw; simp [h2]]
    conv => rhs; rw [← List.map_id T[i]]
    exact List.map_congr_left fun x _ => by simp
end
end Mine
end

section
set_option linter.unusedVariables false
namespace Mine
theorem col_perm {A B : List (List UInt8)} {N : Nat} (h : (allKeys A N).Perm (allKeys B N)) (hl : (allKeys B N).length = N) : columnF A N = columnF B N := by
  have hp := foldl_hpush_perm klt (allKeys B N) []
  rw [List.nil_append] at hp
  have hl' : (colHeap B N).length = N := hp.length_eq.trans hl
  obtain ⟨h1, h2⟩ := popK_sorted TO_klt N _ hl' (foldl_hpush_heap TO_klt _ [] fun j _ hj _ => by simp at hj)
  exact column_of ((h1.trans hp).trans h.symm) h2 (h.length_eq.trans hl)
theorem keys_len (rows : List (List UInt8)) (N : Nat) : (allKeys rows N).length = sizeF rows := by
  unfold allKeys sizeF
  rw [List.length_flatMap]
  congr 1
  exact List.map_congr_left fun r _ => by simp [rowKeys]
theorem col_in {rows : List (List UInt8)} {N : Nat} (hl : (allKeys rows N).length = N) : (columnF rows N).length = N ∧ ∀ c ∈ columnF rows N, 0 ≤ c ∧ c < 256 := by
  have hp := foldl_hpush_perm klt (allKeys rows N) []
  rw [List.nil_append] at hp
  have hl' : (colHeap rows N).length = N := hp.length_eq.trans hl
  obtain ⟨h1, _⟩ := popK_sorted TO_klt N _ hl' (foldl_hpush_heap TO_klt _ [] fun j _ hj _ => by simp at hj)
  refine ⟨by simp [columnF, popK], fun c hc => ?_⟩
  obtain ⟨k, hk, rfl⟩ := List.mem_map.mp hc
  have := (h1.trans hp).mem_iff.mp hk
  obtain ⟨r, _, hr⟩ := List.mem_flatMap.mp this
  obtain ⟨j, _, rfl⟩ := List.mem_map.mp hr
  unfold keyAt
  dsimp only
  have := (r.getD ((j + r.length - 1) % r.length) 0).toNat_lt
  omega
/-- the key at place k, of any k -/
noncomputable def kf (u : List UInt8) (N k : Nat) : Key := (V N u k, ((W u (k + u.length - 1) 0).toNat : Int))
theorem rowKeys_kf {u : List UInt8} {N : Nat} (hu : u ≠ []) : rowKeys N u = (List.range u.length).map (kf u N) :=
  List.map_congr_left fun k hk => keyAt_eq hu (Nat.le_of_lt (List.mem_range.mp hk))
theorem kf_period {u : List UInt8} {N k : Nat} (hu : u ≠ []) : kf u N (k + u.length) = kf u N k := by
  have hp := List.length_pos_iff.mpr hu
  have w : ∀ a n, W u (a + u.length) n = W u a n := fun a n => by unfold W; rw [show a + u.length + n = a + n + u.length by omega, Nat.add_mod_right]
  unfold kf
  congr 1
  · exact List.map_congr_left fun n _ => w k n
  · rw [show k + u.length + u.length - 1 = k + u.length - 1 + u.length by omega, w]
theorem range_period {α : Type} (f : Nat → α) (p : Nat) (hf : ∀ k, f (k + p) = f k) : ∀ m, (List.range (m * p)).map f = (List.replicate m ((List.range p).map f)).flatten
  | 0 => by simp
  | m + 1 => by
    have hm : ∀ m x, f (m * p + x) = f x := by
      intro m
      induction m with
      | zero => intro x; rw [Nat.zero_mul, Nat.zero_add]
      | succ m ih => intro x; rw [Nat.succ_mul, show m * p + p + x = m * p + x + p by omega, hf, ih]
    rw [Nat.succ_mul, List.range_add, List.map_append, List.map_map, range_period f p hf m, List.replicate_succ', List.flatten_append]
    congr 1
    rw [List.flatten_singleton]
    exact List.map_congr_left fun x _ => hm m x
theorem kf_rep {u : List UInt8} {N m k : Nat} (hu : u ≠ []) (hm : 1 ≤ m) : kf (List.replicate m u).flatten N k = kf u N k := by
  have hp := List.length_pos_iff.mpr hu
  have hl : ((List.replicate m u).flatten).length = m * u.length := by rw [List.length_flatten, List.map_replicate, List.sum_replicate_nat]
  have hmp : 0 < m * u.length := Nat.mul_pos hm hp
  have w : ∀ a n, W (List.replicate m u).flatten a n = W u a n := fun a n => by
    unfold W
    rw [hl, List.getD_eq_getElem?_getD, rep_get u m _ (Nat.mod_lt _ hmp), Nat.mod_mul_left_mod, ← List.getD_eq_getElem?_getD]
  unfold kf
  congr 1
  · exact List.map_congr_left fun n _ => w k n
  · rw [w, hl]
    congr 2
    unfold W
    congr 1
    obtain ⟨m', rfl⟩ : ∃ m', m = m' + 1 := ⟨m - 1, by omega⟩
    rw [Nat.succ_mul, show k + (m' * u.length + u.length) - 1 + 0 = k + u.length - 1 + 0 + m' * u.length by omega, Nat.add_mul_mod_self_right]
theorem rowKeys_rep {u : List UInt8} {N m : Nat} (hu : u ≠ []) (hm : 1 ≤ m) : rowKeys N (List.replicate m u).flatten = (List.replicate m (rowKeys N u)).flatten := by
  have hp := List.length_pos_iff.mpr hu
  have hl : ((List.replicate m u).flatten).length = m * u.length := by rw [List.length_flatten, List.map_replicate, List.sum_replicate_nat]
  have hne : (List.replicate m u).flatten ≠ [] := fun e => by rw [e] at hl; have := Nat.mul_pos hm hp; simp at hl; omega
  rw [rowKeys_kf hne, rowKeys_kf hu, hl, ← range_period (kf u N) u.length (fun k => kf_period hu)]
  exact List.map_congr_left fun k _ => kf_rep hu hm
theorem kf_rot {u : List UInt8} {N j k : Nat} (hu : u ≠ []) (hj : j ≤ u.length) : kf (rot u j) N k = kf u N (j + k) := by
  have hp := List.length_pos_iff.mpr hu
  have hl := rot_length hj
  have w : ∀ a n, W (rot u j) a n = W u (j + a) n := fun a n => by
    unfold W
    rw [hl, List.getD_eq_getElem?_getD, rot_get hj (Nat.mod_lt _ hp), Nat.add_mod_mod, ← List.getD_eq_getElem?_getD, Nat.add_assoc]
  unfold kf
  congr 1
  · exact List.map_congr_left fun n _ => w k n
  · rw [w, hl]; congr 3; omega
theorem rowKeys_rot {u : List UInt8} {N j : Nat} (hu : u ≠ []) (hj : j ≤ u.length) : (rowKeys N (rot u j)).Perm (rowKeys N u) := by
  have hl := rot_length hj
  have hp := List.length_pos_iff.mpr hu
  have hne : rot u j ≠ [] := fun e => by rw [e] at hl; simp at hl; omega
  rw [rowKeys_kf hne, rowKeys_kf hu, hl]
  obtain ⟨d, hd⟩ : ∃ d, u.length = j + d := ⟨u.length - j, by omega⟩
  have e1 : (List.range u.length).map (kf (rot u j) N) = (List.range d).map (kf (rot u j) N) ++ (List.range j).map (kf (rot u j) N ∘ fun x => d + x) := by
    rw [hd, Nat.add_comm j d, List.range_add, List.map_append, List.map_map]
  have e2 : (List.range u.length).map (kf u N) = (List.range j).map (kf u N) ++ (List.range d).map (kf u N ∘ fun x => j + x) := by
    rw [hd, List.range_add, List.map_append, List.map_map]
  rw [e1, e2]
  refine List.perm_append_comm.trans ?_
  refine List.Perm.append (.of_eq ?_) (.of_eq ?_)
  · refine List.map_congr_left fun x _ => ?_
    rw [Function.comp, kf_rot hu hj, show j + (d + x) = x + u.length by omega, kf_period hu]
  · exact List.map_congr_left fun x _ => kf_rot hu hj
theorem rep_perm {α : Type} {a b : List α} (h : a.Perm b) : ∀ m, ((List.replicate m a).flatten).Perm (List.replicate m b).flatten
  | 0 => .refl _
  | m + 1 => by
    rw [List.replicate_succ, List.replicate_succ, List.flatten_cons, List.flatten_cons]
    exact h.append (rep_perm h m)
/-- what is asked of a row, with no signs in sight -/
structure RowGood (row : List UInt8) : Prop where
  ne : rootF row ≠ []
  m : 1 ≤ row.length / perF row ∧ row.length / perF row ≤ 6
  told : ∃ j, j < (rootF row).length ∧ row = (List.replicate (row.length / perF row) (rot (rootF row) j)).flatten
  strict : ∀ j, 0 < j → j < (rootF row).length → blt (rootF row) (rot (rootF row) j) = true
theorem told_keys {N : Nat} : ∀ {bag : List (List UInt8)}, (∀ r ∈ bag, RowGood r) → (allKeys (toldL bag) N).Perm (allKeys bag N)
  | [], _ => .refl _
  | row :: bag, h => by
    have ih := told_keys (N := N) (bag := bag) fun r hr => h r (.tail _ hr)
    have g := h row (.head _)
    unfold allKeys toldL at ih ⊢
    rw [List.flatMap_cons, List.flatMap_cons, List.flatMap_append]
    refine List.Perm.append ?_ ih
    obtain ⟨j, hj, e⟩ := g.told
    have hl := rot_length (Nat.le_of_lt hj)
    have hne : rot (rootF row) j ≠ [] := fun q => by rw [q] at hl; simp at hl; omega
    rw [List.flatMap_def, List.map_replicate]
    conv => rhs; rw [e]
    rw [rowKeys_rep hne g.m.1]
    exact rep_perm (rowKeys_rot g.ne (Nat.le_of_lt hj)).symm _
theorem mem_le_sum : ∀ {l : List Nat} {x : Nat}, x ∈ l → x ≤ l.sum
  | y :: l, x, h => by
    rw [List.sum_cons]
    rcases List.mem_cons.mp h with rfl | h
    · omega
    · have := mem_le_sum h; omega
theorem two_sum : ∀ {T : List (List UInt8)} {i k : Nat}, i < k → k < T.length → (tw T i).length + (tw T k).length ≤ (T.map List.length).sum
  | [], _, _, _, h => by simp at h
  | u :: r, 0, k + 1, _, h => by
    have hk : k < r.length := by simpa using h
    have : (tw r k).length ≤ (r.map List.length).sum := by
      refine mem_le_sum ?_
      exact List.mem_map.mpr ⟨tw r k, by unfold tw; rw [List.getD_eq_getElem?_getD, List.getElem?_eq_getElem hk]; exact List.getElem_mem hk, rfl⟩
    show u.length + (tw r k).length ≤ _
    rw [List.map_cons, List.sum_cons]
    omega
  | u :: r, i + 1, k + 1, hlt, h => by
    have := two_sum (T := r) (i := i) (k := k) (by omega) (by simpa using h)
    show (tw r i).length + (tw r k).length ≤ _
    rw [List.map_cons, List.sum_cons]
    omega
theorem rings_ok {bag T : List (List UInt8)} (h : ∀ r ∈ bag, RowGood r) (hT : T.Perm (toldL bag)) (hs : (T.map fun r => (cut r (sizeF bag), r)).Pairwise (fun a b => plt b a = false)) : Rings T (sizeF bag) ∧ (allKeys T (sizeF bag)).Perm (allKeys bag (sizeF bag)) := by
  have hk : (allKeys T (sizeF bag)).Perm (allKeys bag (sizeF bag)) := (hT.flatMap_right _).trans (told_keys h)
  have hsum : (T.map List.length).sum = sizeF bag := by
    have := hk.length_eq
    rw [keys_len, keys_len] at this
    exact this
  have hroot : ∀ {i}, i < T.length → ∃ row ∈ bag, tw T i = rootF row := fun {i} hi => by
    have hm : tw T i ∈ toldL bag := hT.mem_iff.mp (by unfold tw; rw [List.getD_eq_getElem?_getD, List.getElem?_eq_getElem hi]; exact List.getElem_mem hi)
    obtain ⟨row, hr, hm⟩ := List.mem_flatMap.mp hm
    exact ⟨row, hr, List.eq_of_mem_replicate hm⟩
  have hne : ∀ i, i < T.length → tw T i ≠ [] := fun i hi => by
    obtain ⟨row, hr, e⟩ := hroot hi
    rw [e]; exact (h row hr).ne
  refine ⟨⟨hne, fun i k hi hk hik => ?_, fun i hi => ?_, ?_, fun i hi => ?_, fun i k hik hk => ?_⟩, hk⟩
  · rcases Nat.lt_or_gt_of_ne hik with g | g
    · rw [← hsum]; exact two_sum g hk
    · rw [← hsum, Nat.add_comm]; exact two_sum g hi
  · rw [← hsum]
    refine mem_le_sum (List.mem_map.mpr ⟨tw T i, ?_, rfl⟩)
    unfold tw; rw [List.getD_eq_getElem?_getD, List.getElem?_eq_getElem hi]; exact List.getElem_mem hi
  · rw [pos_len, ← hsum]
    congr 1
    apply List.ext_getElem
    · simp
    · intro i h1 h2; simp at h2; simp [tw, h2]
  · obtain ⟨row, hr, e⟩ := hroot hi
    rw [e]; exact (h row hr).strict
  · have hi : i < T.length := by omega
    have := List.pairwise_iff_getElem.mp hs i k (by simpa using hi) (by simpa using hk) hik
    simp only [List.getElem_map] at this
    have ei : T[i] = tw T i := by unfold tw; simp [hi]
    have ek : T[k] = tw T k := by unfold tw; simp [hk]
    rw [ei, ek, cut_self (hne i hi), cut_self (hne k hk)] at this
    unfold plt at this
    dsimp only at this
    by_cases e : V (sizeF bag) (tw T k) 0 = V (sizeF bag) (tw T i) 0
    · rw [e]; exact blt_irrefl _
    · rw [if_neg e] at this; exact this
theorem sorted_told (bag : List (List UInt8)) (N : Nat) : ∃ T : List (List UInt8), T.Perm (toldL bag) ∧ (T.map fun r => (cut r N, r)).Pairwise (fun a b => plt b a = false) := by
  refine ⟨(toldL bag).mergeSort (fun a b => !plt (cut b N, b) (cut a N, a)), List.mergeSort_perm _ _, List.pairwise_map.mpr ?_⟩
  have O : TO plt := TO_blt.lex TO_blt
  refine (List.pairwise_mergeSort (le := fun a b => !plt (cut b N, b) (cut a N, a)) (fun a b c h1 h2 => ?_) (fun a b => ?_) (toldL bag)).imp fun h => by simpa using h
  · simp only [Bool.not_eq_true'] at *
    exact O.le_trans h1 h2
  · cases e : plt (cut b N, b) (cut a N, a) with
    | false => simp
    | true => have := O.asymm e
              simp [this]
theorem rotF_rot {t : Int} {u : List UInt8} (hu : u ≠ []) : ∃ j, j < u.length ∧ rotF t u = rot u j := by
  have hp := List.length_pos_iff.mpr hu
  have h0 := Int.fmod_nonneg_of_pos t (show (0 : Int) < (u.length : Int) by omega)
  have h1 := Int.fmod_lt_of_pos t (show (0 : Int) < (u.length : Int) by omega)
  exact ⟨(t.fmod (u.length : Int)).toNat, by omega, rfl⟩
theorem turned_keys {total : Int} {T : List (List UInt8)} {N : Nat} (hne : ∀ u ∈ T, u ≠ []) : (allKeys (turnedF total T) N).Perm (allKeys T N) := by
  have e : (List.range T.length).map (fun (k : Nat) => T.getD (T.length - 1 - k) []) = T.reverse := by
    apply List.ext_getElem
    · simp
    · intro i h1 h2
      have hi : i < T.length := by simpa using h1
      simp only [List.getElem_map, List.getElem_range, List.getElem_reverse]
      rw [List.getD_eq_getElem?_getD, List.getElem?_eq_getElem (by omega)]
      rfl
  have h2 : (allKeys T.reverse N).Perm (allKeys T N) := (List.reverse_perm T).flatMap_right _
  refine List.Perm.trans ?_ h2
  rw [← e]
  unfold allKeys turnedF
  rw [List.flatMap_map, List.flatMap_map]
  have all : ∀ l : List Nat, (∀ k ∈ l, k < T.length) → (l.flatMap fun (k : Nat) => rowKeys N (rotF (total + (k : Int)) (T.getD (T.length - 1 - k) []))).Perm (l.flatMap fun (k : Nat) => rowKeys N (T.getD (T.length - 1 - k) [])) := by
    intro l
    induction l with
    | nil => intro _; exact .refl _
    | cons k l ih =>
      intro hl
      rw [List.flatMap_cons, List.flatMap_cons]
      refine List.Perm.append ?_ (ih fun x hx => hl x (.tail _ hx))
      have hk := hl k (.head _)
      have hu : T.getD (T.length - 1 - k) [] ≠ [] := by
        rw [List.getD_eq_getElem?_getD, List.getElem?_eq_getElem (by omega)]
        exact hne _ (List.getElem_mem _)
      obtain ⟨j, hj, e⟩ := rotF_rot (t := total + (k : Int)) hu
      rw [e]
      exact rowKeys_rot hu (Nat.le_of_lt hj)
  exact all _ fun k hk => List.mem_range.mp hk
theorem turned_mem {total : Int} {T : List (List UInt8)} {r : List UInt8} (hne : ∀ u ∈ T, u ≠ []) (hr : r ∈ turnedF total T) : ∃ u ∈ T, ∃ j, j < u.length ∧ r = rot u j := by
  obtain ⟨k, hk, rfl⟩ := List.mem_map.mp hr
  have hk := List.mem_range.mp hk
  have hm : T.getD (T.length - 1 - k) [] ∈ T := by
    rw [List.getD_eq_getElem?_getD, List.getElem?_eq_getElem (by omega)]
    exact List.getElem_mem _
  obtain ⟨j, hj, e⟩ := rotF_rot (t := total + (k : Int)) (hne _ hm)
  exact ⟨_, hm, j, hj, e⟩
end Mine
end

end

section
open PySem PySem.W PySem.Calls PyProof.Rows PySem.MeetsSeq
open Mine
section
namespace Mine
def Stop {β : Type} (_ : Sem β) : Prop := True
theorem stopAt {M : Model} {A : Around} {β : Type} {t : Sem β} {Q : β → Shared → Prop} {E : Value → Shared → Prop} {s : Shared} (x : wpAny M A t Q E s) (_ : Stop t) : wpAny M A t Q E s := x
theorem s1 : Stop (exec (Stmt.While a b c d) e) := trivial
theorem s2 : Stop (exec (Stmt.For a b c d e) f) := trivial
theorem s3 : Stop (subscriptTail a b (Value.ref c) (Value.int d e)) := trivial
theorem s4 : Stop (setItem (Value.ref a) (Value.int b c) d) := trivial
theorem s5 : Stop (call (Value.ref a) b c) := trivial
theorem s6 : Stop (call (Value.builtin "len") [Value.ref a] b) := trivial
theorem s7 : Stop (eval (Expr.ListComp a b c d) e) := trivial
theorem s8 : Stop (pyIter a) := trivial
theorem s9 : Stop (subscriptTail a b (Value.bytes c d) e) := trivial
theorem s10 : Stop (binaryOp a (Value.bytes b c) d) := trivial
theorem s11 : Stop (call (Value.builtin "list.append") a b) := trivial
theorem s12 : Stop (exec (Stmt.Assign a (Expr.ListComp b c d e) f) g) := trivial
theorem kun {u b k c : Nat} (h : u < b) (e : Nat.ble (b + k) c = true) : u + k < c := Nat.lt_of_lt_of_le (Nat.add_lt_add_right h k) (Nat.le_of_ble_eq_true e)
theorem kun2 {u b c : Nat} (h : u < b) (e : Nat.ble b c = true) : u < c := Nat.lt_of_lt_of_le h (Nat.le_of_ble_eq_true e)
theorem kun3 {u b c : Nat} (h : u ≤ b) (e : Nat.ble b c = true) : u ≤ c := Nat.le_trans h (Nat.le_of_ble_eq_true e)
end Mine
end
local macro_rules | `(tactic| k_units) => `(tactic| first | exact kun (by assumption) (by rfl) | exact kun2 (by assumption) (by rfl) | (show _ < cLine; simp only [Around.deeper_units, Around.in1_units]; (have := cLine_is); omega))
local macro_rules | `(tactic| walk_at "cut") => `(tactic| ((with_reducible show wpAny _ _ _ _ _ _); (fail_if_success (with_reducible show wpAny _ _ _ (Cont _) _ _)); (fail_if_success (with_reducible show wpAny _ _ (pyIter _) _ _ _)); (refine Cut.go ?_); intro Q' cQ'))
local macro_rules | `(tactic| walk_at "cutx") => `(tactic| ((with_reducible show wpAny _ _ (exec _ _) _ _ _); walk_at "cut"))
local macro_rules | `(tactic| walk_at "use") => `(tactic| ((with_reducible show Cont _ _ _); refine Cut.use (by assumption) ?_; (try dsimp only)))
local macro_rules | `(tactic| walk_at "kend") => `(tactic| ((all_goals (try walk_at "cut")); (all_goals (try dsimp only))))
section
local macro_rules | `(tactic| omega) => `(tactic| first | exact kun (by assumption) (by rfl) | exact kun2 (by assumption) (by rfl) | exact kun3 (by assumption) (by rfl) | lia | omega (splitDisjunctions := true))
section
open PySem PySem.W PySem.Calls PyProof.Rows
set_option Elab.async false
set_option maxRecDepth 100000
set_option maxHeartbeats 4000000
set_option linter.unusedVariables false
namespace Mine
theorem fill : hd.heap_1 = hd.heap_1 ∧ Challenge.rw_oy0121_01 = Challenge.rw_oy0121_01 := by k_fill; exact ⟨rfl, rfl⟩
theorem siftdown_call {w : World} {dp un : Nat} {fr gd} {s : Shared} {h₀ : Heap} {l : Addr} {its : List Value} {n : Nat} {st pos : Nat} {t₁ t₂ : Tok} {x : Value} {lt : Value → Value → Bool} {R : Result → Shared → Prop}
    (H : At w h₀ s [(l, listOf its.toArray n)]) (hdp : dp < 900) (hu : un < 9000)
    (hx : its[pos]? = some x) (hlen : its.length < 2 ^ 60)
    {gl : Heap} (hgl : ∀ a o, gl.get? a = some o → s.heap.get? a = some o) (hgl0 : gl.get? l = none) (hlt : ∀ a ∈ its, ∀ b ∈ its, LtIs w gl a b (lt a b))
    (h : ∀ h' tk, KeepBut [l] s.heap h' → h'.get? l = some (listOf (sd lt x st its pos).toArray n) → R (.ok (.ret .none)) { s with heap := h', toks := tk }) :
    codeAny (model PP w) (AA dp un fr gd) (.call (.ref 49) ⟨[.ref l, .int st t₁, .int pos t₂], []⟩) R s := by
  refine enter H (by k_is) (by k_is) (by show dp < 1000; omega) (BindsTo.of_eq rfl) (locs rfl) ?_ (by decide)
  intro p loose mg mb g L h₁ hg X T F N hlt'
  dsimp only
  k_fold
  (repeat' (first | (k_unfold; try dsimp only) | ((fail_if_success (with_reducible (refine stopAt ?_ ?_; rotate_left; first | exact s1 | exact s2 | exact s3 | exact s4 | exact s5 | exact s6 | exact s7))); first | walk1 | (dsimp only; walk1))))
  refine item_ N (by k_mem) (by omega) (by simpa using hx) hlen ?_
  (repeat' (first | (k_unfold; try dsimp only) | ((fail_if_success (with_reducible (refine stopAt ?_ ?_; rotate_left; first | exact s1 | exact s2 | exact s3 | exact s4 | exact s5 | exact s6 | exact s7))); first | walk1 | (dsimp only; walk1))))
  rename_i h₁' F N
  refine while_st (σ := List Value × Nat × Tok) (fun c => [("heap", .ref l), ("startpos", .int st t₁), ("pos", .int (c.2.1 : Int) c.2.2), ("newitem", x)]) (fun c => [(l, listOf c.1.toArray n)])
    (fun c => c.1.length = its.length ∧ c.2.1 < its.length ∧ (∀ a ∈ c.1, a ∈ its) ∧ sd lt x st c.1 c.2.1 = sd lt x st its pos) (fun c => c.2.1) (its, pos, t₂) (by k_asm) ?_ (by k_asm) ?_ ?_
  · (repeat' (first | exact fmn | refine fmc (@rfl (Option Value) (some _)) ?_))
  · exact ⟨rfl, (List.getElem?_eq_some_iff.mp hx).1, fun a ha => ha, rfl⟩
  · refine elp1 fun its' pos' t' => ?_
    rintro u h₂ tk₂
    refine ela2 fun hl' hp' hs' he' => ?_
    rintro F₂ N₂
    dsimp only [kstB] at hl' hp' hs' he' F₂ N₂ ⊢
    clear F N
    (repeat' (first | (k_unfold; try dsimp only) | ((fail_if_success (with_reducible (refine stopAt ?_ ?_; rotate_left; first | exact s1 | exact s2 | exact s3 | exact s4 | exact s5 | exact s6 | exact s7))); first | walk1 | (dsimp only; walk1))))
    · rename_i hpos h₃ F₃ N₃
      have e : ((pos' : Int) - 1).fdiv (2 ^ Int.toNat 1) = (((pos' - 1) / 2 : Nat) : Int) := by
        rw [show (2 : Int) ^ Int.toNat 1 = 2 from rfl, Int.fdiv_eq_ediv_of_nonneg _ (by omega)]; omega
      simp only [e] at F₃ ⊢
      obtain ⟨y, hy⟩ : ∃ y, its'[(pos' - 1) / 2]? = some y := ⟨its'[(pos' - 1) / 2]'(by omega), by simp⟩
      have hym : y ∈ its' := List.mem_of_getElem? hy
      refine item_ N₃ (by k_mem) (by omega) (by rw [Int.toNat_natCast]; exact hy) (by omega) ?_
      (repeat' (first | (k_unfold; try dsimp only) | ((fail_if_success (with_reducible (refine stopAt ?_ ?_; rotate_left; first | exact s1 | exact s2 | exact s3 | exact s4 | exact s5 | exact s6 | exact s7))); first | walk1 | (dsimp only; walk1))))
      rename Fr _ _ _ _ => F₄
      rename News _ _ _ _ => N₄
      refine hlt x (List.mem_of_getElem? hx) y (hs' y hym) _ _ _ _ _ _ _ (by show un + 3 < 9800; omega) (fun a o e => F₄.keep a o (hg ▸ hideAll_get _ (hgl a o e) (by intro q; rw [List.mem_singleton.mp q] at e; rw [hgl0] at e; cases e))) ?_
      (repeat' (first | (k_unfold; try dsimp only) | ((fail_if_success (with_reducible (refine stopAt ?_ ?_; rotate_left; first | exact s1 | exact s2 | exact s3 | exact s4 | exact s5 | exact s6 | exact s7))); first | walk1 | (dsimp only; walk1))))
      · rename lt x y = true => hb
        refine setItem_ (k := (pos' : Int)) F₄ N₄ (by k_upd) (by omega) (by omega) (by omega) ?_
        intro h₅ F₅ N₅
        (repeat' (first | (k_unfold; try dsimp only) | ((fail_if_success (with_reducible (refine stopAt ?_ ?_; rotate_left; first | exact s1 | exact s2 | exact s3 | exact s4 | exact s5 | exact s6 | exact s7))); first | walk1 | (dsimp only; walk1))))
        rename Fr _ _ _ _ => F₆
        rename News _ _ _ _ => N₆
        refine WEnd.mk' (its'.set pos' y, (pos' - 1) / 2, _) F₆ (by (repeat' (first | exact fmn | refine fmc (@rfl (Option Value) (some _)) ?_))) N₆ ⟨?_, ?_, ?_, ?_⟩ ?_
        · simpa using hl'
        · show (pos' - 1) / 2 < _; omega
        · intro a ha
          rcases List.mem_or_eq_of_mem_set ha with h1 | h1
          · exact hs' a h1
          · exact h1 ▸ hs' y hym
        · rw [← he']
          conv => rhs; rw [sd]
          simp [show st < pos' by omega, hy, hb]
        · show (pos' - 1) / 2 < pos'; omega
      · rename lt x y = false => hb
        dsimp only [WPost]
        (repeat' (first | (k_unfold; try dsimp only) | ((fail_if_success (with_reducible (refine stopAt ?_ ?_; rotate_left; first | exact s1 | exact s2 | exact s3 | exact s4 | exact s5 | exact s6 | exact s7))); first | walk1 | (dsimp only; walk1))))
        refine setItem_ (k := (pos' : Int)) F₄ N₄ (by k_upd) (by omega) (by omega) (by omega) ?_
        intro h₅ F₅ N₅
        (repeat' (first | (k_unfold; try dsimp only) | ((fail_if_success (with_reducible (refine stopAt ?_ ?_; rotate_left; first | exact s1 | exact s2 | exact s3 | exact s4 | exact s5 | exact s6 | exact s7))); first | walk1 | (dsimp only; walk1))))
        refine h _ _ (fun b o hb' e => F₅.keep b o (hg ▸ hideAll_get _ e hb')) ?_
        have := (N₅ _ (List.Mem.head _)).1
        rw [this, ← he', sd]
        simp [show st < pos' by omega, hy, hb]
    · rename_i hpos
      refine setItem_ (k := (pos' : Int)) F₂ N₂ (by k_upd) (by omega) (by omega) (by omega) ?_
      intro h₅ F₅ N₅
      (repeat' (first | (k_unfold; try dsimp only) | ((fail_if_success (with_reducible (refine stopAt ?_ ?_; rotate_left; first | exact s1 | exact s2 | exact s3 | exact s4 | exact s5 | exact s6 | exact s7))); first | walk1 | (dsimp only; walk1))))
      refine h _ _ (fun b o hb' e => F₅.keep b o (hg ▸ hideAll_get _ e hb')) ?_
      have := (N₅ _ (List.Mem.head _)).1
      rw [this, ← he', sd]
      simp [show ¬ st < pos' by omega]
end Mine
end

section
open PySem PySem.W PySem.Calls PyProof.Rows
set_option Elab.async false
set_option maxRecDepth 100000
set_option maxHeartbeats 4000000
set_option linter.unusedVariables false
namespace Mine
theorem fill2 : hd.heap_1 = hd.heap_1 ∧ Challenge.rw_oy0121_01 = Challenge.rw_oy0121_01 := by k_fill; exact ⟨rfl, rfl⟩
theorem siftup_call {w : World} {dp un : Nat} {fr gd} {s : Shared} {h₀ : Heap} {l : Addr} {its : List Value} {n : Nat} {pos : Nat} {t₁ : Tok} {lt : Value → Value → Bool} {R : Result → Shared → Prop}
    (H : At w h₀ s [(l, listOf its.toArray n)]) (hdp : dp < 890) (hu : un < 8900)
    (hx : pos < its.length) (hlen : its.length < 2 ^ 50)
    {gl : Heap} (hgl : ∀ a o, gl.get? a = some o → s.heap.get? a = some o) (hgl0 : gl.get? l = none) (hlt : ∀ a ∈ its, ∀ b ∈ its, LtIs w gl a b (lt a b))
    (h : ∀ h' tk, KeepBut [l] s.heap h' → h'.get? l = some (listOf (siftup lt its pos).toArray n) → R (.ok (.ret .none)) { s with heap := h', toks := tk }) :
    codeAny (model PP w) (AA dp un fr gd) (.call (.ref 56) ⟨[.ref l, .int pos t₁], []⟩) R s := by
  refine enter H (by k_is) (by k_is) (by show dp < 1000; omega) (BindsTo.of_eq rfl) (locs rfl) ?_ (by decide)
  intro p loose mg mb g L h₁ hg X T F N hlt'
  dsimp only
  k_fold
  (repeat' (first | (k_unfold; try dsimp only) | ((fail_if_success (with_reducible (refine stopAt ?_ ?_; rotate_left; first | exact s1 | exact s2 | exact s3 | exact s4 | exact s5 | exact s6 | exact s7))); first | walk1 | (dsimp only; walk1))))
  refine len_ N (by k_mem) (by omega) ?_
  intro t₂ tk₂
  (repeat' (first | (k_unfold; try dsimp only) | ((fail_if_success (with_reducible (refine stopAt ?_ ?_; rotate_left; first | exact s1 | exact s2 | exact s3 | exact s4 | exact s5 | exact s6 | exact s7))); first | walk1 | (dsimp only; walk1))))
  rename Fr _ _ _ _ => F₁
  rename News _ _ _ _ => N₁
  refine item_ N₁ (by k_mem) (by omega) (by rw [Int.toNat_natCast]; exact List.getElem?_eq_getElem hx) (by omega) ?_
  (repeat' (first | (k_unfold; try dsimp only) | ((fail_if_success (with_reducible (refine stopAt ?_ ?_; rotate_left; first | exact s1 | exact s2 | exact s3 | exact s4 | exact s5 | exact s6 | exact s7))); first | walk1 | (dsimp only; walk1))))
  rename Fr _ _ _ _ => F₂
  rename News _ _ _ _ => N₂
  refine while_st (σ := List Value × Nat × Tok × Tok) (fun c => [("heap", .ref l), ("startpos", .int pos t₁), ("endpos", .int (its.length : Int) t₂), ("pos", .int (c.2.1 : Int) c.2.2.1), ("childpos", .int (2 * (c.2.1 : Int) + 1) c.2.2.2), ("newitem", its[pos])]) (fun c => [(l, listOf c.1.toArray n)])
    (fun c => c.1.length = its.length ∧ c.2.1 < its.length ∧ (∀ a ∈ c.1, a ∈ its) ∧ su lt c.1 c.2.1 = su lt its pos) (fun c => its.length - c.2.1) (its, pos, t₁, _) F₂ (by (repeat' (first | exact fmn | refine fmc (@rfl (Option Value) (some _)) ?_))) N₂ ?_ ?_
  · exact ⟨rfl, hx, fun a ha => ha, rfl⟩
  · refine elp3 fun its' pos' t' t'' => ?_
    rintro u h₂ tk₂
    refine ela2 fun hl' hp' hs' he' => ?_
    rintro F₃ N₃
    dsimp only [kstB] at hl' hp' hs' he' F₃ N₃ ⊢
    clear F₂ N₂
    (repeat' (first | (k_unfold; try dsimp only) | ((fail_if_success (with_reducible (refine stopAt ?_ ?_; rotate_left; first | exact s1 | exact s2 | exact s3 | exact s4 | exact s5 | exact s6 | exact s7))); first | walk1 | (dsimp only; walk1))))
    · rename (2 * (pos' : Int) + 1 < (its.length : Int)) => hc1
      rename (2 * (pos' : Int) + 1 + 1 < (its.length : Int)) => hc2
      rename Fr _ _ _ _ => F₄
      rename News _ _ _ _ => N₄
      have h1 : 2 * pos' + 1 < its'.length := by omega
      have h2 : 2 * pos' + 2 < its'.length := by omega
      refine item_ N₄ (by k_mem) (by omega) (by rw [show (2 * (pos' : Int) + 1).toNat = 2 * pos' + 1 by omega]; exact List.getElem?_eq_getElem h1) (by omega) ?_
      (repeat' (first | (k_unfold; try dsimp only) | ((fail_if_success (with_reducible (refine stopAt ?_ ?_; rotate_left; first | exact s1 | exact s2 | exact s3 | exact s4 | exact s5 | exact s6 | exact s7))); first | walk1 | (dsimp only; walk1))))
      refine item_ N₄ (by k_mem) (by omega) (by rw [show (2 * (pos' : Int) + 1 + 1).toNat = 2 * pos' + 2 by omega]; exact List.getElem?_eq_getElem h2) (by omega) ?_
      (repeat' (first | (k_unfold; try dsimp only) | ((fail_if_success (with_reducible (refine stopAt ?_ ?_; rotate_left; first | exact s1 | exact s2 | exact s3 | exact s4 | exact s5 | exact s6 | exact s7))); first | walk1 | (dsimp only; walk1))))
      have m1 := hs' _ (List.getElem_mem h1)
      have m2 := hs' _ (List.getElem_mem h2)
      refine hlt _ m1 _ m2 _ _ _ _ _ _ _ (by show un + 3 < 9800; omega) (fun a o e => F₄.keep a o (hg ▸ hideAll_get _ (hgl a o e) (by intro q; rw [List.mem_singleton.mp q] at e; rw [hgl0] at e; cases e))) ?_
      (repeat' (first | (k_unfold; try dsimp only) | ((fail_if_success (with_reducible (refine stopAt ?_ ?_; rotate_left; first | exact s1 | exact s2 | exact s3 | exact s4 | exact s5 | exact s6 | exact s7))); first | walk1 | (dsimp only; walk1))))
      · rename lt _ _ = true => hb
        refine item_ N₄ (by k_mem) (by omega) (by rw [show (2 * (pos' : Int) + 1).toNat = 2 * pos' + 1 by omega]; exact List.getElem?_eq_getElem h1) (by omega) ?_
        (repeat' (first | (k_unfold; try dsimp only) | ((fail_if_success (with_reducible (refine stopAt ?_ ?_; rotate_left; first | exact s1 | exact s2 | exact s3 | exact s4 | exact s5 | exact s6 | exact s7))); first | walk1 | (dsimp only; walk1))))
        refine setItem_ (k := (pos' : Int)) F₄ N₄ (by k_upd) (by omega) (by omega) (by omega) ?_
        intro h₅ F₅ N₅
        (repeat' (first | (k_unfold; try dsimp only) | ((fail_if_success (with_reducible (refine stopAt ?_ ?_; rotate_left; first | exact s1 | exact s2 | exact s3 | exact s4 | exact s5 | exact s6 | exact s7))); first | walk1 | (dsimp only; walk1))))
        rename Fr _ _ _ _ => F₆
        rename News _ _ _ _ => N₆
        refine WEnd.mk' (its'.set pos' its'[2 * pos' + 1], 2 * pos' + 1, _, _) F₆ (by (repeat' (first | exact fmn | refine fmc (@rfl (Option Value) (some _)) ?_))) N₆ ⟨?_, ?_, ?_, ?_⟩ ?_
        · simpa using hl'
        · show 2 * pos' + 1 < _; omega
        · intro a ha
          rcases List.mem_or_eq_of_mem_set ha with h1 | h1
          · exact hs' a h1
          · exact h1 ▸ m1
        · rw [← he']
          conv => rhs; rw [su]
          simp [h1, h2, hb]
        · show its.length - (2 * pos' + 1) < its.length - pos'; omega
      · rename lt _ _ = false => hb
        rename Fr _ _ _ _ => F₅
        rename News _ _ _ _ => N₅
        refine item_ N₅ (by k_mem) (by omega) (by rw [show (2 * (pos' : Int) + 1 + 1).toNat = 2 * pos' + 2 by omega]; exact List.getElem?_eq_getElem h2) (by omega) ?_
        (repeat' (first | (k_unfold; try dsimp only) | ((fail_if_success (with_reducible (refine stopAt ?_ ?_; rotate_left; first | exact s1 | exact s2 | exact s3 | exact s4 | exact s5 | exact s6 | exact s7))); first | walk1 | (dsimp only; walk1))))
        refine setItem_ (k := (pos' : Int)) F₅ N₅ (by k_upd) (by omega) (by omega) (by omega) ?_
        intro h₅ F₅ N₅
        (repeat' (first | (k_unfold; try dsimp only) | ((fail_if_success (with_reducible (refine stopAt ?_ ?_; rotate_left; first | exact s1 | exact s2 | exact s3 | exact s4 | exact s5 | exact s6 | exact s7))); first | walk1 | (dsimp only; walk1))))
        rename Fr _ _ _ _ => F₆
        rename News _ _ _ _ => N₆
        refine WEnd.mk' (its'.set pos' its'[2 * pos' + 2], 2 * pos' + 2, _, _) F₆ (by (repeat' (first | exact fmn | refine fmc (@rfl (Option Value) (some _)) ?_))) N₆ ⟨?_, ?_, ?_, ?_⟩ ?_
        · simpa using hl'
        · show 2 * pos' + 2 < _; omega
        · intro a ha
          rcases List.mem_or_eq_of_mem_set ha with h1 | h1
          · exact hs' a h1
          · exact h1 ▸ m2
        · rw [← he']
          conv => rhs; rw [su]
          simp [h1, h2, hb]
        · show its.length - (2 * pos' + 2) < its.length - pos'; omega
    · rename (2 * (pos' : Int) + 1 < (its.length : Int)) => hc1
      rename (¬ 2 * (pos' : Int) + 1 + 1 < (its.length : Int)) => hc2
      rename Fr _ _ _ _ => F₄
      rename News _ _ _ _ => N₄
      have h1 : 2 * pos' + 1 < its'.length := by omega
      have h2 : ¬ 2 * pos' + 2 < its'.length := by omega
      have m1 := hs' _ (List.getElem_mem h1)
      refine item_ N₄ (by k_mem) (by omega) (by rw [show (2 * (pos' : Int) + 1).toNat = 2 * pos' + 1 by omega]; exact List.getElem?_eq_getElem h1) (by omega) ?_
      (repeat' (first | (k_unfold; try dsimp only) | ((fail_if_success (with_reducible (refine stopAt ?_ ?_; rotate_left; first | exact s1 | exact s2 | exact s3 | exact s4 | exact s5 | exact s6 | exact s7))); first | walk1 | (dsimp only; walk1))))
      refine setItem_ (k := (pos' : Int)) F₄ N₄ (by k_upd) (by omega) (by omega) (by omega) ?_
      intro h₅ F₅ N₅
      (repeat' (first | (k_unfold; try dsimp only) | ((fail_if_success (with_reducible (refine stopAt ?_ ?_; rotate_left; first | exact s1 | exact s2 | exact s3 | exact s4 | exact s5 | exact s6 | exact s7))); first | walk1 | (dsimp only; walk1))))
      rename Fr _ _ _ _ => F₆
      rename News _ _ _ _ => N₆
      refine WEnd.mk' (its'.set pos' its'[2 * pos' + 1], 2 * pos' + 1, _, _) F₆ (by (repeat' (first | exact fmn | refine fmc (@rfl (Option Value) (some _)) ?_))) N₆ ⟨?_, ?_, ?_, ?_⟩ ?_
      · simpa using hl'
      · show 2 * pos' + 1 < _; omega
      · intro a ha
        rcases List.mem_or_eq_of_mem_set ha with h1 | h1
        · exact hs' a h1
        · exact h1 ▸ m1
      · rw [← he']
        conv => rhs; rw [su]
        simp [h1, h2]
      · show its.length - (2 * pos' + 1) < its.length - pos'; omega
    · rename (¬ 2 * (pos' : Int) + 1 < (its.length : Int)) => hc1
      refine setItem_ (k := (pos' : Int)) F₃ N₃ (by k_upd) (by omega) (by omega) (by omega) ?_
      intro h₅ F₅ N₅
      (repeat' (first | (k_unfold; try dsimp only) | ((fail_if_success (with_reducible (refine stopAt ?_ ?_; rotate_left; first | exact s1 | exact s2 | exact s3 | exact s4 | exact s5 | exact s6 | exact s7))); first | walk1 | (dsimp only; walk1))))
      rw [Int.toNat_natCast] at N₅
      have hl5 := (N₅ _ (List.Mem.head _)).2
      refine wpAny_call (siftdown_call (x := its[pos]) (gl := gl) (lt := lt) (at_of X T F₅ N₅ (fun q hq => hq)) (by show dp + 1 < 900; omega) (by show un + 3 < 9000; omega) (by rw [List.getElem?_set_self (by omega)]) (by simp; omega)
        (fun a o e => F₅.keep a o (hg ▸ hideAll_get _ (hgl a o e) (by intro q; rw [List.mem_singleton.mp q] at e; rw [hgl0] at e; cases e))) hgl0 ?_ ?_)
      · intro a ha b hb
        have q : ∀ c ∈ its'.set pos' its[pos], c ∈ its := by
          intro c hc
          rcases List.mem_or_eq_of_mem_set hc with h1 | h1
          · exact hs' c h1
          · exact h1 ▸ List.getElem_mem hx
        exact hlt a (q a ha) b (q b hb)
      · intro h₆ tk₆ K₆ e₆
        have F₆ := fr_after F₅ K₆ (by simp; exact fun e => hl5.1 e.symm) (by simp; exact hl5.2)
        dsimp only
        (repeat' (first | (k_unfold; try dsimp only) | ((fail_if_success (with_reducible (refine stopAt ?_ ?_; rotate_left; first | exact s1 | exact s2 | exact s3 | exact s4 | exact s5 | exact s6 | exact s7))); first | walk1 | (dsimp only; walk1))))
        refine h _ _ (fun b o hb' e => F₆.keep b o (hg ▸ hideAll_get _ e hb')) ?_
        rw [e₆]
        unfold siftup
        rw [List.getElem?_eq_getElem hx]
        dsimp only
        rw [← he', su]
        simp [show ¬ 2 * pos' + 1 < its'.length by omega]
end Mine
end

section
open PySem PySem.W PySem.Calls PyProof.Rows
set_option Elab.async false
set_option maxRecDepth 100000
set_option maxHeartbeats 4000000
set_option linter.unusedVariables false
namespace Mine
theorem fill3 : hd.heap_1 = hd.heap_1 ∧ Challenge.rw_oy0121_01 = Challenge.rw_oy0121_01 := by k_fill; exact ⟨rfl, rfl⟩
theorem heappush_call {w : World} {dp un : Nat} {fr gd} {s : Shared} {h₀ : Heap} {l : Addr} {its : List Value} {n : Nat} {x : Value} {lt : Value → Value → Bool} {R : Result → Shared → Prop}
    (H : At w h₀ s [(l, listOf its.toArray n)]) (hdp : dp < 890) (hu : un < 8900) (hlen : its.length < 2000)
    {gl : Heap} (hgl : ∀ a o, gl.get? a = some o → s.heap.get? a = some o) (hgl0 : gl.get? l = none) (hlt : ∀ a ∈ its ++ [x], ∀ b ∈ its ++ [x], LtIs w gl a b (lt a b))
    (h : ∀ h' tk, KeepBut [l] s.heap h' → h'.get? l = some (listOf (sd lt x 0 (its ++ [x]) its.length).toArray (n + 1)) → R (.ok (.ret .none)) { s with heap := h', toks := tk }) :
    codeAny (model PP w) (AA dp un fr gd) (.call (.ref 28) ⟨[.ref l, x], []⟩) R s := by
  refine enter H (by k_is) (by k_is) (by show dp < 1000; omega) (BindsTo.of_eq rfl) (locs rfl) ?_ (by decide)
  intro p loose mg mb g L h₁ hg X T F N hlt'
  dsimp only
  k_fold
  (repeat' (first | (k_unfold; try dsimp only) | ((fail_if_success (with_reducible (refine stopAt ?_ ?_; rotate_left; first | exact s1 | exact s2 | exact s3 | exact s4 | exact s5 | exact s6 | exact s7))); first | walk1 | (dsimp only; walk1))))
  rename Fr _ _ _ _ => F₁
  rename News _ _ _ _ => N₁
  rw [List.push_toArray] at N₁
  refine len_ N₁ (by k_mem) (by simp; omega) ?_
  intro t₂ tk₂
  (repeat' (first | (k_unfold; try dsimp only) | ((fail_if_success (with_reducible (refine stopAt ?_ ?_; rotate_left; first | exact s1 | exact s2 | exact s3 | exact s4 | exact s5 | exact s6 | exact s7))); first | walk1 | (dsimp only; walk1))))
  have hl1 := (N₁ _ (List.Mem.head _)).2
  rw [show (((its ++ [x]).length : Nat) : Int) - 1 = (its.length : Int) by simp]
  refine wpAny_call (siftdown_call (st := 0) (x := x) (gl := gl) (lt := lt) (at_of X T F₁ N₁ (fun q hq => hq)) (by show dp + 1 < 900; omega) (by show un + 3 < 9000; omega) (by simp) (by simp; omega)
        (fun a o e => F₁.keep a o (hg ▸ hideAll_get _ (hgl a o e) (by intro q; rw [List.mem_singleton.mp q] at e; rw [hgl0] at e; cases e))) hgl0 hlt ?_)
  intro h₆ tk₆ K₆ e₆
  have F₆ := fr_after F₁ K₆ (by simp; exact fun e => hl1.1 e.symm) (by simp; exact hl1.2)
  dsimp only
  (repeat' (first | (k_unfold; try dsimp only) | ((fail_if_success (with_reducible (refine stopAt ?_ ?_; rotate_left; first | exact s1 | exact s2 | exact s3 | exact s4 | exact s5 | exact s6 | exact s7))); first | walk1 | (dsimp only; walk1))))
  exact h _ _ (fun b o hb' e => F₆.keep b o (hg ▸ hideAll_get _ e hb')) e₆
theorem heappop_call {w : World} {dp un : Nat} {fr gd} {s : Shared} {h₀ : Heap} {l : Addr} {its : List Value} {n : Nat} {y : Value} {lt : Value → Value → Bool} {R : Result → Shared → Prop}
    (H : At w h₀ s [(l, listOf (its ++ [y]).toArray n)]) (hdp : dp < 880) (hu : un < 8800) (hlen : its.length < 2000)
    {gl : Heap} (hgl : ∀ a o, gl.get? a = some o → s.heap.get? a = some o) (hgl0 : gl.get? l = none) (hlt : ∀ a ∈ its ++ [y], ∀ b ∈ its ++ [y], LtIs w gl a b (lt a b))
    (h : ∀ h' tk, KeepBut [l] s.heap h' → h'.get? l = some (listOf (siftup lt (its.set 0 y) 0).toArray (n + 1)) → R (.ok (.ret ((its ++ [y]).headD .none))) { s with heap := h', toks := tk }) :
    codeAny (model PP w) (AA dp un fr gd) (.call (.ref 35) ⟨[.ref l], []⟩) R s := by
  refine enter H (by k_is) (by k_is) (by show dp < 1000; omega) (BindsTo.of_eq rfl) (locs rfl) ?_ (by decide)
  intro p loose mg mb g L h₁ hg X T F N hlt'
  dsimp only
  k_fold
  (repeat' (first | (k_unfold; try dsimp only) | ((fail_if_success (with_reducible (refine stopAt ?_ ?_; rotate_left; first | exact s1 | exact s2 | exact s3 | exact s4 | exact s5 | exact s6 | exact s7))); first | walk1 | (dsimp only; walk1))))
  dsimp only
  refine pop_ F N (by k_upd) (by omega) ?_
  intro h₂ F₂ N₂
  cases its with
  | nil =>
    (repeat' (first | (k_unfold; try dsimp only) | ((fail_if_success (with_reducible (refine stopAt ?_ ?_; rotate_left; first | exact s1 | exact s2 | exact s3 | exact s4 | exact s5 | exact s6 | exact s7))); first | walk1 | (dsimp only; walk1))))
    rename Fr _ _ _ _ => F₃
    rename News _ _ _ _ => N₃
    dsimp only
    refine h _ _ (fun b o hb' e => F₃.keep b o (hg ▸ hideAll_get _ e hb')) ?_
    rw [(N₃ _ (List.Mem.head _)).1]
    simp [siftup]
  | cons y₀ its =>
    (repeat' (first | (k_unfold; try dsimp only) | ((fail_if_success (with_reducible (refine stopAt ?_ ?_; rotate_left; first | exact s1 | exact s2 | exact s3 | exact s4 | exact s5 | exact s6 | exact s7))); first | walk1 | (dsimp only; walk1))))
    rename Fr _ _ _ _ => F₃
    rename News _ _ _ _ => N₃
    dsimp only
    refine item_ N₃ (by k_mem) (by omega) rfl (by omega) ?_
    (repeat' (first | (k_unfold; try dsimp only) | ((fail_if_success (with_reducible (refine stopAt ?_ ?_; rotate_left; first | exact s1 | exact s2 | exact s3 | exact s4 | exact s5 | exact s6 | exact s7))); first | walk1 | (dsimp only; walk1))))
    rename Fr _ _ _ _ => F₄
    rename News _ _ _ _ => N₄
    dsimp only
    refine setItem_ (k := 0) F₄ N₄ (by k_upd) (by omega) (by simp) (by omega) ?_
    intro h₅ F₅ N₅
    (repeat' (first | (k_unfold; try dsimp only) | ((fail_if_success (with_reducible (refine stopAt ?_ ?_; rotate_left; first | exact s1 | exact s2 | exact s3 | exact s4 | exact s5 | exact s6 | exact s7))); first | walk1 | (dsimp only; walk1))))
    have hl5 := (N₅ _ (List.Mem.head _)).2
    refine wpAny_call (siftup_call (pos := 0) (gl := gl) (lt := lt) (at_of X T F₅ N₅ (fun q hq => hq)) (by show dp + 1 < 890; omega) (by show un + 3 < 8900; omega) (by simp) (by simp at hlen ⊢; omega)
        (fun a o e => F₅.keep a o (hg ▸ hideAll_get _ (hgl a o e) (by intro q; rw [List.mem_singleton.mp q] at e; rw [hgl0] at e; cases e))) hgl0 ?_ ?_)
    · intro a ha b hb
      have q : ∀ c ∈ (y₀ :: its).set (Int.toNat 0) y, c ∈ y₀ :: its ++ [y] := by
        intro c hc
        rcases List.mem_or_eq_of_mem_set hc with h1 | h1
        · exact List.mem_append_left _ h1
        · rw [h1]; simp
      exact hlt a (q a ha) b (q b hb)
    · intro h₆ tk₆ K₆ e₆
      have F₆ := fr_after F₅ K₆ (by simp; exact fun e => hl5.1 e.symm) (by simp; exact hl5.2)
      dsimp only
      (repeat' (first | (k_unfold; try dsimp only) | ((fail_if_success (with_reducible (refine stopAt ?_ ?_; rotate_left; first | exact s1 | exact s2 | exact s3 | exact s4 | exact s5 | exact s6 | exact s7))); first | walk1 | (dsimp only; walk1))))
      dsimp only
      exact h _ _ (fun b o hb' e => F₆.keep b o (hg ▸ hideAll_get _ e hb')) e₆
end Mine
end

section
open PySem PySem.W PySem.Calls PyProof.Rows
set_option Elab.async false
set_option maxRecDepth 100000
set_option maxHeartbeats 4000000
set_option linter.unusedVariables false
namespace Mine
theorem sub_ri_reversed : isSubtype (.type "range_iterator") (.type "reversed") = pure false := by rw [isSubtype_type]; kernel_rfl
section
variable {prog : Program} {w : World} {A : Around} {E : Value → Shared → Prop} {s : Shared}
noncomputable abbrev rIter (x n c : Int) : Obj := { cls := .type "range_iterator", data := .fields #[rawInt x, rawInt n, rawInt c] }
theorem range_reversed_meets (r : Addr) (a b c : Int) (t u v : Tok) (hs : (Builtin.Range.rangeFitsLong a && Builtin.Range.rangeFitsLong b && Builtin.Range.rangeFitsLong c && Builtin.Range.rangeFitsLong (-c) && Builtin.Range.rangeFitsLong (a - c) && Builtin.Range.rangeFitsLong (Builtin.Range.rangeSize a b c)) = true) :
    Meets (Builtin.«range.__reversed__» ⟨[.ref r], []⟩) (fun _ R s => s.heap.get? r = some { cls := .type "range", dict := none, data := .fields #[.int a t, .int b u, .int c v], slots := #[] } ∧
      R (.ok (.ret (Value.ref s.heap.objs.size))) { s with heap := s.heap.push (rIter (a + (Builtin.Range.rangeSize a b c - 1) * c) (Builtin.Range.rangeSize a b c) (-c)) }) :=
  .of_wp fun prog w A R s h => by
    obtain ⟨hp, g, d, tk, os⟩ := s; obtain ⟨hl, h⟩ := h
    have hc0 : ¬ (!(Builtin.Range.rangeFitsLong a && Builtin.Range.rangeFitsLong b && Builtin.Range.rangeFitsLong c && Builtin.Range.rangeFitsLong (-c) && Builtin.Range.rangeFitsLong (a - c) && Builtin.Range.rangeFitsLong (Builtin.Range.rangeSize a b c))) = true := by rw [hs]; simp
    wp_walk
    rw [if_pos hs]
    wp_walk
    exact ⟨_, rfl, h⟩
theorem call_range_reversed {r : Addr} {n : Nat} {t u v : Tok} {Q : Value → Shared → Prop} (hr : IsRange s.heap r 0 (n : Int) 1 t u v) (hn : n < 2 ^ 60)
    (h : Q (.ref s.heap.objs.size) { s with heap := s.heap.push (rIter ((n : Int) - 1) n (-1)) }) : wpAny (model prog w) A (call (.builtin "range.__reversed__") [.ref r]) Q E s := by
  have hT : s.TypeIs (.ref r) "range" := ⟨_, hr, rfl⟩
  have hz : Builtin.Range.rangeSize 0 (n : Int) 1 = (n : Int) := by
    unfold Builtin.Range.rangeSize
    simp only [show (1 : Int) > 0 by decide, if_true]
    split <;> omega
  refine call_meets F.slot_range_reversed hT F.entry_range_reversed (F.args_range_reversed_1 _) (range_reversed_meets r 0 n 1 t u v ?_) ⟨hr, ?_⟩
  · rw [hz]
    simp only [Builtin.Range.rangeFitsLong, Bool.and_eq_true, decide_eq_true_eq]
    omega
  · rw [hz, show (0 : Int) + ((n : Int) - 1) * 1 = (n : Int) - 1 by omega]
    exact h
theorem code_reversed_range {r : Addr} {n : Nat} {t u v : Tok} {Q₁ : Value → Shared → Prop} (hr : IsRange s.heap r 0 (n : Int) 1 t u v) (hn : n < 2 ^ 60)
    (h : Q₁ (.ref s.heap.objs.size) { s with heap := s.heap.push (rIter ((n : Int) - 1) n (-1)) }) :
    codeAny (model prog w) A (.call (.builtin "reversed.__new__") ⟨[.type "reversed", .ref r], []⟩) (wants Q₁ E) s := by
  have hT : s.TypeIs (.ref r) "range" := ⟨_, hr, rfl⟩
  refine codeAny_of_tree ?_
  show wpAny _ A.in1 (do checkBuiltinCall "reversed.__new__" ⟨[.type "reversed", .ref r], []⟩; again (.builtin "reversed.__new__" ⟨[.type "reversed", .ref r], []⟩)) _ _ s
  refine wpAny_bind (wpAny_of_eq (F.newCall_reversed_1 _) (wpAny_pure ⟨plainId_quiet F.plain_reversed_new _, codeAny_builtin F.entry_reversed_new ?_⟩))
  rw [Around.under_plainId F.plain_reversed_new _]
  unfold Builtin.«reversed.__new__»
  refine wpAny_bind (wpAny_of_eq (newClass_reversed _) ?_)
  try dsimp only
  refine wpAny_bind (wpAny_of_eq (a := ()) (by first | rfl | kernel_rfl) ?_)
  refine wpAny_bind (wpAny_of_eq (a := ()) (by first | rfl | kernel_rfl) ?_)
  try dsimp only
  refine wpAny_bind (wpAny_specialOf hT F.slot_range_reversed.lookup ?_)
  try dsimp only
  refine wpAny_bind (wpAny_of_eq (F.slot_range_reversed.bind _) ?_)
  try dsimp only
  first
  | rw [if_neg (show ¬ ((Value.builtin "range.__reversed__" == Value.none) = true) from Bool.false_ne_true)]
  | (show wpAny _ _ (if (Value.builtin "range.__reversed__" == Value.none) = true then _ else _) _ _ _; rw [if_neg (show ¬ ((Value.builtin "range.__reversed__" == Value.none) = true) from Bool.false_ne_true)])
  refine wpAny_bind (wpAny_rule ?_)
  refine wpAny_bind (m := runValue (.call (.builtin "range.__reversed__") ⟨[.ref r], []⟩)) (show wpAny _ _ (call (.builtin "range.__reversed__") [.ref r]) _ _ _ from call_range_reversed hr hn ?_)
  first
  | exact wpAny_pure h
  | exact wpAny_bind (wpAny_pure (wpAny_pure h))
theorem call_reversed_range {r : Addr} {n : Nat} {t u v : Tok} {Q : Value → Shared → Prop} (hr : IsRange s.heap r 0 (n : Int) 1 t u v) (hn : n < 2 ^ 60)
    (h : Q (.ref s.heap.objs.size) { s with heap := s.heap.push (rIter ((n : Int) - 1) n (-1)) }) : wpAny (model prog w) A (call (.type "reversed") [.ref r]) Q E s := by
  refine callType_other (U := "range_iterator") (Q₁ := fun obj s₁ => obj = .ref s.heap.objs.size ∧ s₁ = { s with heap := s.heap.push (rIter ((n : Int) - 1) n (-1)) }) (by decide +kernel) F.create_reversed ⟨_, _, F.mro_reversed⟩ F.made_reversed sub_ri_reversed (F.typeCall_reversed_1 _) (code_reversed_range hr hn ⟨rfl, rfl⟩) ?_
  rintro obj s₁ ⟨rfl, rfl⟩
  exact ⟨⟨_, Heap.get?_push_size _ rfl, rfl⟩, h⟩
end
end Mine
end

section
open PySem PySem.W PySem.Calls PyProof.Rows
set_option Elab.async false
set_option maxRecDepth 100000
set_option maxHeartbeats 4000000
set_option linter.unusedVariables false
namespace Mine
theorem fill4 : hd.heap_1 = hd.heap_1 ∧ Challenge.rw_oy0121_01 = Challenge.rw_oy0121_01 := by k_fill; exact ⟨rfl, rfl⟩
theorem heapify_call {w : World} {dp un : Nat} {fr gd} {s : Shared} {h₀ : Heap} {l : Addr} {its : List Value} {n : Nat} {lt : Value → Value → Bool} {R : Result → Shared → Prop}
    (H : At w h₀ s [(l, listOf its.toArray n)]) (hdp : dp < 880) (hu : un < 8800) (hlen : its.length < 2000)
    {gl : Heap} (hgl : ∀ a o, gl.get? a = some o → s.heap.get? a = some o) (hgl0 : gl.get? l = none) (hlt : ∀ a ∈ its, ∀ b ∈ its, LtIs w gl a b (lt a b))
    (h : ∀ h' tk, KeepBut [l] s.heap h' → h'.get? l = some (listOf (heapifyF lt its).toArray n) → R (.ok (.ret .none)) { s with heap := h', toks := tk }) :
    codeAny (model PP w) (AA dp un fr gd) (.call (.ref 42) ⟨[.ref l], []⟩) R s := by
  refine enter H (by k_is) (by k_is) (by show dp < 1000; omega) (BindsTo.of_eq rfl) (locs rfl) ?_ (by decide)
  intro p loose mg mb g L h₁ hg X T F N hlt'
  dsimp only
  k_fold
  (repeat' (first | (k_unfold; try dsimp only) | ((fail_if_success (with_reducible (refine stopAt ?_ ?_; rotate_left; first | exact s1 | exact s2 | exact s3 | exact s4 | exact s5 | exact s6 | exact s8 | exact s7))); first | walk1 | (dsimp only; walk1))))
  refine len_ N (by k_mem) (by omega) ?_
  intro t₂ tk₂
  (repeat' (first | (k_unfold; try dsimp only) | ((fail_if_success (with_reducible (refine stopAt ?_ ?_; rotate_left; first | exact s1 | exact s2 | exact s3 | exact s4 | exact s5 | exact s6 | exact s8 | exact s7))); first | walk1 | (dsimp only; walk1))))
  refine wpAny_For ?_
  (repeat' (first | (k_unfold; try dsimp only) | ((fail_if_success (with_reducible (refine stopAt ?_ ?_; rotate_left; first | exact s1 | exact s2 | exact s3 | exact s4 | exact s5 | exact s6 | exact s8 | exact s7))); first | walk1 | (dsimp only; walk1))))
  rename IsRange _ _ _ _ _ _ _ _ => hr
  rename Fr _ _ _ _ => F₁
  rename News _ _ _ _ => N₁
  rw [show ((its.length : Int)).fdiv 2 = ((its.length / 2 : Nat) : Int) by rw [Int.fdiv_eq_ediv_of_nonneg _ (by omega)]; omega] at hr
  refine call_reversed_range hr (by omega) ?_
  dsimp only
  rename_i h₂ _ _ _ _ _
  (repeat' (first | (k_unfold; try dsimp only) | ((fail_if_success (with_reducible (refine stopAt ?_ ?_; rotate_left; first | exact s1 | exact s2 | exact s3 | exact s4 | exact s5 | exact s6 | exact s8 | exact s7))); first | walk1 | (dsimp only; walk1))))
  have F₂ := F₁.push (rIter (((its.length / 2 : Nat) : Int) - 1) ((its.length / 2 : Nat) : Int) (-1))
  have N₂ := N₁.push F₁ (rIter (((its.length / 2 : Nat) : Int) - 1) ((its.length / 2 : Nat) : Int) (-1))
  have hl2 := N₁ _ (List.Mem.head _)
  have hlI : l ≠ h₂.objs.size := Nat.ne_of_lt (Heap.lt_size hl2.1)
  have hLI : L ≠ h₂.objs.size := Nat.ne_of_lt F₁.ns.lt
  have W := Walks.range (prog := PP) (w := w) (A := (AA dp un fr gd).deeper (envX (Str.ofString "heapify") { kind := ScopeKind.function, names := [(Str.ofString "x", NameKind.local), (Str.ofString "n", NameKind.local), (Str.ofString "i", NameKind.local), (Str.ofString "len", NameKind.globalImplicit), (Str.ofString "reversed", NameKind.globalImplicit), (Str.ofString "range", NameKind.globalImplicit), (Str.ofString "_siftup", NameKind.globalImplicit)], isGenerator := false, isCoroutine := false } L 42 (Value.ref 41) [])) rfl h₂.objs.size (((its.length / 2 : Nat) : Int) - 1) (-1) (its.length / 2)
  have st0 : IsRangeIter (h₂.push (rIter (((its.length / 2 : Nat) : Int) - 1) ((its.length / 2 : Nat) : Int) (-1))) h₂.objs.size (((its.length / 2 : Nat) : Int) - 1 + ((0 : Nat) : Int) * (-1)) (((its.length / 2 : Nat) : Int) - ((0 : Nat) : Int)) (-1) := by
    simpa using Heap.get?_push_size h₂ (o := rIter (((its.length / 2 : Nat) : Int) - 1) ((its.length / 2 : Nat) : Int) (-1)) rfl
  refine W.self 0 _ _ _ st0 ?_
  refine forLoop_st (σ := List Value) W (fun _ _ => [("x", .ref l)]) (fun _ c => [(l, listOf c.toArray n)])
    (fun i c => c.length = its.length ∧ (∀ a ∈ c, a ∈ its) ∧ c = ((List.range' (its.length / 2 - i) i).reverse).foldl (siftup lt) its) its
    (.head _) (next_is_new F₁) (fun i h st => ⟨_, st⟩) (by simp; exact hLI) (by simp; exact next_is_new F₁) (by simp; exact fun _ _ _ _ _ => hlI) st0 F₂ (by (repeat' (first | exact fmn | refine fmc (@rfl (Option Value) (some _)) ?_))) (fun p hp => N₂ p (.tail _ hp)) ⟨rfl, fun a ha => ha, rfl⟩ ?_ ?_
  · rintro i c v u h₃ tk₃ own hi ⟨t₃, rfl⟩
    refine ela4 fun hc1 hc2 hc3 => ?_
    rintro hown _ F₃ N₃
    dsimp only [kstB] at F₃ N₃ ⊢
    (repeat' (first | (k_unfold; try dsimp only) | ((fail_if_success (with_reducible (refine stopAt ?_ ?_; rotate_left; first | exact s1 | exact s2 | exact s3 | exact s4 | exact s5 | exact s6 | exact s8 | exact s7))); first | walk1 | (dsimp only; walk1))))
    rename Fr _ _ _ _ => F₄
    rename News _ _ _ _ => N₄
    have hl4 := (N₄ _ (List.mem_append_left _ (List.Mem.head _))).2
    rw [show ((its.length / 2 : Nat) : Int) - 1 + (i : Int) * -1 = ((its.length / 2 - 1 - i : Nat) : Int) by omega]
    refine wpAny_call (siftup_call (pos := its.length / 2 - 1 - i) (gl := gl) (lt := lt) (at_of (ws := [(l, listOf c.toArray n)]) X T F₄ N₄ (fun q hq => List.mem_append_left _ hq)) (by show dp + 1 < 890; omega) (by show un + 3 < 8900; omega) (by omega) (by omega)
        (fun a o e => F₄.keep a o (hg ▸ hideAll_get _ (hgl a o e) (by intro q; rw [List.mem_singleton.mp q] at e; rw [hgl0] at e; cases e))) hgl0 (fun a ha b hb => hlt a (hc2 a ha) b (hc2 b hb)) ?_)
    intro h₆ tk₆ K₆ e₆
    have F₆ := fr_after F₄ K₆ (by simp; exact fun e => hl4.1 e.symm) (by simp; exact hl4.2)
    have No : News g L h₆ own := news_after (fun p hp => N₄ p (List.mem_append_right _ hp)) K₆ (fun p hp q => by
      exact hlI ((List.mem_singleton.mp q).symm.trans (List.mem_singleton.mp (hown p hp))))
    have N₆ := news_app (news_one e₆ hl4.1 hl4.2) No
    dsimp only
    (repeat' (first | (k_unfold; try dsimp only) | ((fail_if_success (with_reducible (refine stopAt ?_ ?_; rotate_left; first | exact s1 | exact s2 | exact s3 | exact s4 | exact s5 | exact s6 | exact s8 | exact s7))); first | walk1 | (dsimp only; walk1))))
    refine ⟨siftup lt c (its.length / 2 - 1 - i), _, _, _, _, rfl, F₆, by (repeat' (first | exact fmn | refine fmc (@rfl (Option Value) (some _)) ?_)), N₆, fun p hp => List.mem_append_left _ hp, fun p hp => List.mem_append_right _ hp, ?_, ?_, ?_⟩
    · rw [siftup_length]; exact hc1
    · intro a ha; exact hc2 a ((siftup_perm lt c _).mem_iff.mp ha)
    · have e : List.range' (its.length / 2 - (i + 1)) (i + 1) = (its.length / 2 - 1 - i) :: List.range' (its.length / 2 - i) i := by
        rw [List.range'_succ]
        congr 1
        · omega
        · congr 1; omega
      rw [e, List.reverse_cons, List.foldl_append, ← hc3]
      rfl
  · rintro c u h₃ tk₃
    refine ela4 fun hc1 hc2 hc3 => ?_
    rintro F₃ N₃
    dsimp only [kstB] at F₃ N₃ ⊢
    (repeat' (first | (k_unfold; try dsimp only) | ((fail_if_success (with_reducible (refine stopAt ?_ ?_; rotate_left; first | exact s1 | exact s2 | exact s3 | exact s4 | exact s5 | exact s6 | exact s8 | exact s7))); first | walk1 | (dsimp only; walk1))))
    refine h _ _ (fun b o hb' e => F₃.keep b o (hg ▸ hideAll_get _ e hb')) ?_
    rw [(N₃ _ (List.Mem.head _)).1, hc3]
    unfold heapifyF
    rw [Nat.sub_self, ← List.range_eq_range']
end Mine
end

section
open PySem PySem.W PySem.Calls PyProof.Rows PySem.MeetsSeq
set_option Elab.async false
set_option maxRecDepth 100000
set_option maxHeartbeats 4000000
set_option linter.unusedVariables false
namespace Mine
theorem slot_bytes_lt : Slot "bytes" (cmpInfo .Lt).2.1 "bytes.__lt__" :=
  .of (owner := "bytes") (n := "__lt__") (by rw [typeLookup_type, builtinLookup_eq_fast]; kernel_rfl) (by decide +kernel) (by decide +kernel) (by decide +kernel)
    (by first | exact .inl (by decide +kernel) | exact .inr (by decide +kernel)) (by rw [isSubtype_type]; kernel_rfl)
theorem entry_bytes_lt : entryFor table "bytes.__lt__" = some Builtin.«bytes.__lt__» := entryFor_of_tree (by kernel_rfl)
theorem args_bytes_lt_2 (a b : Value) : argsOk "bytes.__lt__" ⟨[a, b], []⟩ := by
  unfold argsOk; rw [signature?_of (id := "bytes.__lt__") (n := ['_', '_', 't', 'l', '_', '_']) (o := ['s', 'e', 't', 'y', 'b']) (by kernel_rfl) FB.owner_bytes]; kernel_rfl
theorem gives_bytes_lt (b c : Array UInt8) (t u : Tok) : Gives (Builtin.«bytes.__lt__» ⟨[.bytes b t, .bytes c u], []⟩) (.val (.bool (Builtin.Bytes.order b.toList c.toList == .lt))) := by
  refine .of_wp fun M A E s Q hq => ?_
  show wpAny M A (isInstance (.bytes c u) (.type "bytes") >>= fun r => _) _ E s
  refine wpAny_bind (wpAny_isInstance (typeIs_bytes s c u) F.sub_bytes_bytes ?_)
  exact wpAny_pure ⟨_, rfl, hq⟩
/-- x < y gives e, wherever it is asked -/
noncomputable def LtGives (a b : Value) (e : Bool) : Prop := ∀ (prog : Program) (w : World) (A : Around) (E : Value → Shared → Prop) (s : Shared) (Q : Value → Shared → Prop), Q (.bool e) s → wpAny (model prog w) A (richCompare .Lt a b) Q E s
theorem ltGives_bytes (b c : Array UInt8) (t u : Tok) : LtGives (.bytes b t) (.bytes c u) (Builtin.Bytes.order b.toList c.toList == .lt) := fun prog w A E s Q h =>
  richCompare_gives (op := .Lt) (typeIs_bytes s b t) (typeIs_bytes s c u) slot_bytes_lt entry_bytes_lt (args_bytes_lt_2 _ _) (gives_bytes_lt b c t u) (fun e => nomatch e) h
theorem ltGives_int (i j : Int) (t u : Tok) : LtGives (.int i t) (.int j u) (decide (i < j)) := fun prog w A E s Q h =>
  show wpAny _ _ (compareOp .Lt (.int i t) (.int j u)) _ _ _ from lt_int h
theorem eqGives_bytes (b c : Array UInt8) (t u : Tok) : EqGives (.bytes b t) (.bytes c u) (decide (b.toList = c.toList)) := fun prog w A E s Q h => eqBool_bytes h
theorem tuple2_lt_tree {prog : Program} {w : World} {A : Around} {E : Value → Shared → Prop} {s : Shared} {a b : Addr} {oa ob : Obj} {na nb : Nat} {x1 x2 y1 y2 : Value} {e1 e2 l1 l2 : Bool} {P : PySem.Fin → Shared → Prop}
    (ha : s.heap.get? a = some oa) (hda : oa.data = .seq #[x1, x2] na) (hb : s.heap.get? b = some ob) (hcb : ob.cls = .type "tuple") (hdb : ob.data = .seq #[y1, y2] nb)
    (he1 : EqGives x1 y1 e1) (he2 : EqGives x2 y2 e2) (hl1 : LtGives x1 y1 l1) (hl2 : LtGives x2 y2 l2)
    (h : P (.done (.ret (.bool (if e1 then (if e2 then false else l2) else l1)))) s) :
    wpAny (model prog w) A (Builtin.«tuple.__lt__» ⟨[.ref a, .ref b], []⟩) P E s := by
  have hTb : s.TypeIs (.ref b) "tuple" := ⟨ob, hb, hcb⟩
  show wpAny _ _ (isInstance (.ref b) (.type "tuple") >>= _) _ _ s
  refine wpAny_bind (wpAny_isInstance hTb isSubtype_tuple_tuple ?_)
  simp only [Bool.not_true, Bool.false_eq_true, if_false]
  refine wpAny_bind (wpAny_tupleItemsOf ha hda ?_)
  refine wpAny_bind (wpAny_tupleItemsOf hb hdb ?_)
  refine wpAny_bind ?_
  simp only [List.zip_cons_cons, List.zip_nil_right, List.forIn_cons, List.forIn_nil, bind_assoc]
  refine wpAny_bind (he1 _ _ _ _ _ _ ?_)
  cases e1 with
  | false =>
    simp only [Bool.not_false, if_true, bind_assoc]
    refine wpAny_bind (wpAny_rule ?_)
    refine wpAny_bind (hl1 _ _ _ _ _ _ ?_)
    simp only [ret, pure_bind]
    exact wpAny_pure (wpAny_pure h)
  | true =>
    simp only [Bool.not_true, Bool.false_eq_true, if_false, pure_bind]
    refine wpAny_bind (he2 _ _ _ _ _ _ ?_)
    cases e2 with
    | false =>
      simp only [Bool.not_false, if_true, bind_assoc]
      refine wpAny_bind (wpAny_rule ?_)
      refine wpAny_bind (hl2 _ _ _ _ _ _ ?_)
      simp only [ret, pure_bind]
      exact wpAny_pure (wpAny_pure h)
    | true =>
      simp only [Bool.not_true, Bool.false_eq_true, if_false, pure_bind]
      exact wpAny_pure (wpAny_pure h)
theorem tuple2_lt {w : World} {g : Heap} {a b : Addr} {oa ob : Obj} {na nb : Nat} {x1 x2 y1 y2 : Value} {e1 e2 l1 l2 : Bool}
    (ha : g.get? a = some oa) (hca : oa.cls = .type "tuple") (hda : oa.data = .seq #[x1, x2] na) (hb : g.get? b = some ob) (hcb : ob.cls = .type "tuple") (hdb : ob.data = .seq #[y1, y2] nb)
    (he1 : EqGives x1 y1 e1) (he2 : EqGives x2 y2 e2) (hl1 : LtGives x1 y1 l1) (hl2 : LtGives x2 y2 l2) : LtIs w g (.ref a) (.ref b) (if e1 then (if e2 then false else l2) else l1) := by
  intro dp un fr gd s E Q hu hk hq
  have Ta : s.TypeIs (.ref a) "tuple" := ⟨oa, hk a oa ha, hca⟩
  have Tb : s.TypeIs (.ref b) "tuple" := ⟨ob, hk b ob hb, hcb⟩
  refine cmp_ofLt (wpAny_richCompare_same_room (op := .Lt) Ta Tb F.slot_tuple_lt
      (wpAny_call_entry F.slot_tuple_lt Ta F.entry_tuple_lt (tuple2_lt_tree (hk a oa ha) hda (hk b ob hb) hcb hdb he1 he2 hl1 hl2 ⟨_, rfl, (fun e => nomatch e), hq⟩) (F.args_tuple_lt_2 _ _)) ?_)
  have := cLine_is
  show un < cLine
  omega
end Mine
end

section
open PySem PySem.W PySem.Calls PyProof.Rows PySem.MeetsSeq
set_option Elab.async false
set_option maxRecDepth 100000
set_option maxHeartbeats 4000000
set_option linter.unusedVariables false
namespace Mine
theorem fill5 : hd.heap_1 = hd.heap_1 ∧ Challenge.rw_oy0121_01 = Challenge.rw_oy0121_01 := by k_fill; exact ⟨rfl, rfl⟩
/-- a pair of octets and a number -/
noncomputable abbrev tupO (b : List UInt8) (t : Tok) (i : Int) (u : Tok) : Obj := { cls := .type "tuple", data := .seq #[.bytes b.toArray t, .int i u] }
theorem order_blt : ∀ a b : List UInt8, (Builtin.Bytes.order a b == .lt) = blt a b
  | [], [] => rfl
  | [], _ :: _ => rfl
  | _ :: _, [] => rfl
  | x :: a, y :: b => by
    unfold Builtin.Bytes.order blt
    by_cases h1 : x < y
    · simp [h1]
    · by_cases h2 : y < x
      · simp [h1, h2]
      · simp [h1, h2, order_blt a b]
theorem klt_tup {w : World} {g : Heap} {a b : Addr} {ka kb : Key} {ta ua tb ub : Tok} (ha : g.get? a = some (tupO ka.1 ta ka.2 ua)) (hb : g.get? b = some (tupO kb.1 tb kb.2 ub)) : LtIs w g (.ref a) (.ref b) (klt ka kb) := by
  have := tuple2_lt (w := w) ha rfl rfl hb rfl rfl (eqGives_bytes _ _ _ _) (EqGives.int _ _ _ _) (ltGives_bytes _ _ _ _) (ltGives_int _ _ _ _)
  have e : (if decide (ka.1.toArray.toList = kb.1.toArray.toList) = true then (if (ka.2 == kb.2) = true then false else decide (ka.2 < kb.2)) else (Builtin.Bytes.order ka.1.toArray.toList kb.1.toArray.toList == .lt)) = klt ka kb := by
    rw [order_blt]
    unfold klt
    by_cases h1 : ka.1 = kb.1
    · by_cases h2 : ka.2 = kb.2
      · simp [h1, h2]
      · simp [h1, h2]
    · simp [h1]
  rw [e] at this
  exact this
/-- what a heap of pairs is: its refs, its counter, the pairs, and each ref's key -/
noncomputable abbrev HSt := List Value × Nat × List (Addr × Obj) × (Value → Key)
noncomputable def HOk (apart : List Addr) (ks : List Key) (c : HSt) : Prop :=
  (∀ q ∈ c.2.2.1, q.1 ∉ apart) ∧ (∀ v ∈ c.1, ∃ a t u, v = .ref a ∧ (a, tupO (c.2.2.2 v).1 t (c.2.2.2 v).2 u) ∈ c.2.2.1) ∧ c.1.map c.2.2.2 = ks
theorem column_call {w : World} {dp un : Nat} {fr gd} {s : Shared} {h₀ : Heap} {lr : Addr} {vs : List Value} {rows : List (List UInt8)} {size : Nat} {t : Tok} {R : Result → Shared → Prop}
    (H : At w h₀ s []) (hdp : dp < 870) (hu : un < 8700) (hl : s.heap.IsList lr vs.toArray) (hv : BytesAre vs rows) (hlen : (allKeys rows size).length < 1000) (hrow : ∀ r ∈ rows, r ≠ [] ∧ r.length ≤ 16) (hsize : size < 100)
    (henough : size ≤ (allKeys rows size).length)
    (h : ∀ h' tk D vs' n, KeepBut [] s.heap h' → s.heap.get? D = none → h'.get? D = some (listOf vs'.toArray n) → IntsAre vs' (columnF rows size) → R (.ok (.ret (.ref D))) { s with heap := h', toks := tk }) :
    codeAny (model PP w) (AA dp un fr gd) (.call (.ref 206) ⟨[.ref lr, .int (size : Int) t], []⟩) R s := by
  refine enterC H (by k_is) (by k_is) (by show dp < 1000; omega) (BindsTo.of_eq rfl) (by rfl) (by decide) ?_
  intro p loose mg mb g L h₁ tk₁ cells hg X T F N hC hlt'
  obtain ⟨oc, hoc, hcd⟩ := CellsAre.one hC
  subst hoc
  try dsimp only
  k_fold
  (repeat' (first | (k_unfold; try dsimp only) | ((fail_if_success (with_reducible (refine stopAt ?_ ?_; rotate_left; first | exact s1 | exact s2 | exact s3 | exact s4 | exact s5 | exact s6 | exact s8 | exact s9 | exact s10 | exact s7))); (fail_if_success (with_reducible first | show LCg.CompSrc _ _ _ _ _ _ _ _ _ _ _ _ _ _ | show LCg.CompEnd _ _ _ _ _ _ _ _ _ _ _ _ _ _)); first | walk1 | (dsimp only; walk1))))
  rename_i lh _ _ _ hlt1 h₂ oc' F₁ N₁ hcd'
  clear hC hcd
  have hlg : g.IsList lr vs.toArray := by rw [hg]; exact hl
  refine wpAny_For ?_
  (repeat' (first | (k_unfold; try dsimp only) | ((fail_if_success (with_reducible (refine stopAt ?_ ?_; rotate_left; first | exact s1 | exact s2 | exact s3 | exact s4 | exact s5 | exact s6 | exact s8 | exact s9 | exact s10 | exact s7))); (fail_if_success (with_reducible first | show LCg.CompSrc _ _ _ _ _ _ _ _ _ _ _ _ _ _ | show LCg.CompEnd _ _ _ _ _ _ _ _ _ _ _ _ _ _)); first | walk1 | (dsimp only; walk1))))
  have z1 := N₁ _ (List.Mem.head _)
  have z2 := N₁ _ (List.Mem.tail _ (List.Mem.head _))
  obtain ⟨ol, hol, _⟩ := id hlg
  have hlhI : lh ≠ h₂.objs.size := Nat.ne_of_lt (Heap.lt_size z1.1)
  have hcI : L + 1 ≠ h₂.objs.size := Nat.ne_of_lt (Heap.lt_size z2.1)
  have hlhr : lh ≠ lr := fun e => by have := z1.2.2; rw [e, hol] at this; cases this
  have hcr : L + 1 ≠ lr := fun e => by have := z2.2.2; rw [e, hol] at this; cases this
  have hch : L + 1 ≠ lh := Nat.ne_of_lt (hlt1 _ (List.Mem.head _))
  refine for_list (σ := HSt) rfl hlg (fun _ _ => [("rows", .ref lr), ("size", .int (size : Int) t)])
    (fun _ c => (lh, listOf c.1.toArray c.2.1) :: (L + 1, oc') :: c.2.2.1)
    (fun i c => HOk [h₂.objs.size, lr, lh, L + 1] ((allKeys (rows.take i) size).foldl (hpush klt) []) c) ([], 0, [], fun _ => ([], 0)) ?_ F₁ (by (repeat' (first | exact fmn | refine fmc (@rfl (Option Value) (some _)) ?_))) N₁ ?_ ?_ ?_
  · rintro i c ⟨hc1, _⟩ p hp
    rcases List.mem_cons.mp hp with rfl | hp
    · exact ⟨hlhI, hlhr⟩
    · rcases List.mem_cons.mp hp with rfl | hp
      · exact ⟨hcI, hcr⟩
      · have hq := hc1 p hp; exact ⟨fun e => hq (by rw [e]; simp), fun e => hq (by rw [e]; simp)⟩
  · exact ⟨(fun _ hq => nomatch hq), (fun _ hq => nomatch hq), by simp [allKeys]⟩
  · rintro i c v u h₃ tk₃ own hvi hc hown ⟨oI, hoI⟩ F₃ N₃
    obtain ⟨row, hrow'⟩ : ∃ row, rows[i]? = some row := ⟨rows[i]'(by have := hv.length; have := (List.getElem?_eq_some_iff.mp hvi).1; omega), by simp⟩
    obtain ⟨tv, hvv⟩ := hv.get i row hrow'
    have : v = .bytes row.toArray tv := by
      rw [hvv] at hvi; exact (Option.some.inj hvi).symm
    subst this
    obtain ⟨hrne, hrl⟩ := hrow row (List.mem_of_getElem? hrow')
    dsimp only [kstB] at F₃ N₃ ⊢
    (repeat' (first | (k_unfold; try dsimp only) | ((fail_if_success (with_reducible (refine stopAt ?_ ?_; rotate_left; first | exact s1 | exact s2 | exact s3 | exact s4 | exact s5 | exact s6 | exact s8 | exact s9 | exact s10 | exact s7))); (fail_if_success (with_reducible first | show LCg.CompSrc _ _ _ _ _ _ _ _ _ _ _ _ _ _ | show LCg.CompEnd _ _ _ _ _ _ _ _ _ _ _ _ _ _)); first | walk1 | (dsimp only; walk1))))
    refine wpAny_For ?_
    (repeat' (first | (k_unfold; try dsimp only) | ((fail_if_success (with_reducible (refine stopAt ?_ ?_; rotate_left; first | exact s1 | exact s2 | exact s3 | exact s4 | exact s5 | exact s6 | exact s8 | exact s9 | exact s10 | exact s7))); (fail_if_success (with_reducible first | show LCg.CompSrc _ _ _ _ _ _ _ _ _ _ _ _ _ _ | show LCg.CompEnd _ _ _ _ _ _ _ _ _ _ _ _ _ _)); first | walk1 | (dsimp only; walk1))))
    rename IsRange _ _ _ _ _ _ _ _ => hr
    rename Fr _ _ _ _ => F₄
    rename News _ _ _ _ => N₄
    rename_i h₄ _ _ _ _ hk₄
    rw [show ((row.toArray.size : Nat) : Int) = (row.length : Int) by simp] at hr
    obtain ⟨hc1, hc2, hc3⟩ := hc
    have y1 := N₄ _ (List.Mem.head _)
    have y2 := N₄ _ (List.Mem.tail _ (List.Mem.head _))
    refine for_range (σ := HSt) rfl hr (by omega) (fun _ _ => [("rows", .ref lr), ("size", .int (size : Int) t), ("row", .bytes row.toArray tv)])
      (fun _ c => (lh, listOf c.1.toArray c.2.1) :: (L + 1, oc') :: c.2.2.1 ++ own)
      (fun j c => HOk [h₄.objs.size, h₂.objs.size, lr, lh, L + 1] (((rowKeys size row).take j).foldl (hpush klt) ((allKeys (rows.take i) size).foldl (hpush klt) [])) c) c ?_ F₄ (by (repeat' (first | exact fmn | refine fmc (@rfl (Option Value) (some _)) ?_))) N₄ ?_ ?_ ?_
    · rintro j c ⟨hc1, _⟩ p hp
      rcases List.mem_append.mp hp with hp | hp
      · rcases List.mem_cons.mp hp with rfl | hp
        · exact Nat.ne_of_lt (Heap.lt_size y1.1)
        · rcases List.mem_cons.mp hp with rfl | hp
          · exact Nat.ne_of_lt (Heap.lt_size y2.1)
          · have := hc1 p hp; simp only [List.mem_cons, not_or] at this; exact this.1
      · exact Nat.ne_of_lt (Heap.lt_size (N₄ p (List.mem_append_right _ hp)).1)
    · refine ⟨fun q hq => ?_, hc2, by rw [List.take_zero]; exact hc3⟩
      have := hc1 q hq
      simp only [List.mem_cons, not_or] at this ⊢
      exact ⟨Nat.ne_of_lt (Heap.lt_size (N₄ q (List.mem_append_left _ (.tail _ (.tail _ hq)))).1), this⟩
    · rintro j c' tk' u' h₅ tk₅ own' hj hc' hown' ⟨oI', hoI'⟩ F₅ N₅
      dsimp only [kstB] at F₅ N₅ ⊢
      (repeat' (first | (k_unfold; try dsimp only) | ((fail_if_success (with_reducible (refine stopAt ?_ ?_; rotate_left; first | exact s1 | exact s2 | exact s3 | exact s4 | exact s5 | exact s6 | exact s8 | exact s9 | exact s10 | exact s7))); (fail_if_success (with_reducible first | show LCg.CompSrc _ _ _ _ _ _ _ _ _ _ _ _ _ _ | show LCg.CompEnd _ _ _ _ _ _ _ _ _ _ _ _ _ _)); first | walk1 | (dsimp only; walk1))))
      rename Fr _ _ _ _ => F₆
      rename News _ _ _ _ => N₆
      dsimp only
      refine bcut_from (s := ⟨_, _, _, _, _⟩) F₆ N₆ (by omega) ?_
      intro h₇ t₇ k₇ F₇ N₇
      (repeat' (first | (k_unfold; try dsimp only) | ((fail_if_success (with_reducible (refine stopAt ?_ ?_; rotate_left; first | exact s1 | exact s2 | exact s3 | exact s4 | exact s5 | exact s6 | exact s8 | exact s9 | exact s10 | exact s7))); (fail_if_success (with_reducible first | show LCg.CompSrc _ _ _ _ _ _ _ _ _ _ _ _ _ _ | show LCg.CompEnd _ _ _ _ _ _ _ _ _ _ _ _ _ _)); first | walk1 | (dsimp only; walk1))))
      dsimp only
      refine bcut_to (s := ⟨_, _, _, _, _⟩) F₇ N₇ (by omega) ?_
      intro h₈ t₈ k₈ F₈ N₈
      (repeat' (first | (k_unfold; try dsimp only) | ((fail_if_success (with_reducible (refine stopAt ?_ ?_; rotate_left; first | exact s1 | exact s2 | exact s3 | exact s4 | exact s5 | exact s6 | exact s8 | exact s9 | exact s10 | exact s7))); (fail_if_success (with_reducible first | show LCg.CompSrc _ _ _ _ _ _ _ _ _ _ _ _ _ _ | show LCg.CompEnd _ _ _ _ _ _ _ _ _ _ _ _ _ _)); first | walk1 | (dsimp only; walk1))))
      refine badd (by simp; omega) ?_
      intro t₉ k₉
      (repeat' (first | (k_unfold; try dsimp only) | ((fail_if_success (with_reducible (refine stopAt ?_ ?_; rotate_left; first | exact s1 | exact s2 | exact s3 | exact s4 | exact s5 | exact s6 | exact s8 | exact s9 | exact s10 | exact s7))); (fail_if_success (with_reducible first | show LCg.CompSrc _ _ _ _ _ _ _ _ _ _ _ _ _ _ | show LCg.CompEnd _ _ _ _ _ _ _ _ _ _ _ _ _ _)); first | walk1 | (dsimp only; walk1))))
      rename Fr _ _ _ _ => F₉
      rename News _ _ _ _ => N₉
      refine bytes_mul_any (fun e => by have := congrArg List.length e; simp at this; have := List.length_pos_iff.mpr hrne; omega) (by omega) (by omega) (by simp; omega) ?_
      intro t₁₀ k₁₀
      (repeat' (first | (k_unfold; try dsimp only) | ((fail_if_success (with_reducible (refine stopAt ?_ ?_; rotate_left; first | exact s1 | exact s2 | exact s3 | exact s4 | exact s5 | exact s6 | exact s8 | exact s9 | exact s10 | exact s7))); (fail_if_success (with_reducible first | show LCg.CompSrc _ _ _ _ _ _ _ _ _ _ _ _ _ _ | show LCg.CompEnd _ _ _ _ _ _ _ _ _ _ _ _ _ _)); first | walk1 | (dsimp only; walk1))))
      dsimp only
      refine bcut_to (s := ⟨_, _, _, _, _⟩) F₉ N₉ (by
        rw [List.length_flatten, List.map_replicate, List.sum_replicate_nat, Int.toNat_natCast]
        have := Nat.mul_le_mul (Nat.le_of_lt hsize) (show (row.drop j ++ row.take j).length ≤ 16 by simp; omega)
        omega) ?_
      intro h₁₁ t₁₁ k₁₁ F₁₁ N₁₁
      (repeat' (first | (k_unfold; try dsimp only) | ((fail_if_success (with_reducible (refine stopAt ?_ ?_; rotate_left; first | exact s1 | exact s2 | exact s3 | exact s4 | exact s5 | exact s6 | exact s8 | exact s9 | exact s10 | exact s7))); (fail_if_success (with_reducible first | show LCg.CompSrc _ _ _ _ _ _ _ _ _ _ _ _ _ _ | show LCg.CompEnd _ _ _ _ _ _ _ _ _ _ _ _ _ _)); first | walk1 | (dsimp only; walk1))))
      refine bitem (by omega) hrne (by omega) (by omega) ?_
      intro t₁₂ k₁₂
      (repeat' (first | (k_unfold; try dsimp only) | ((fail_if_success (with_reducible (refine stopAt ?_ ?_; rotate_left; first | exact s1 | exact s2 | exact s3 | exact s4 | exact s5 | exact s6 | exact s8 | exact s9 | exact s10 | exact s7))); (fail_if_success (with_reducible first | show LCg.CompSrc _ _ _ _ _ _ _ _ _ _ _ _ _ _ | show LCg.CompEnd _ _ _ _ _ _ _ _ _ _ _ _ _ _)); first | walk1 | (dsimp only; walk1))))
      rename Fr _ _ _ _ => F₁₃
      rename News _ _ _ _ => N₁₃
      rename_i nt h₁₃ hlt13
      rw [Int.toNat_natCast] at N₁₃
      rw [show ((j : Int) - 1 + (row.length : Int)) % (row.length : Int) = (((j + row.length - 1) % row.length : Nat) : Int) by
        have := List.length_pos_iff.mpr hrne
        rw [show (j : Int) - 1 + (row.length : Int) = ((j + row.length - 1 : Nat) : Int) by omega]; rfl, Int.toNat_natCast] at N₁₃
      obtain ⟨hd1, hd2, hd3⟩ := hc'
      have w1 := N₁₃ _ (List.Mem.head _)
      have w2 := N₁₃ _ (List.Mem.tail _ (List.Mem.head _))
      have hntlh : nt ≠ lh := Nat.ne_of_gt (hlt13 _ (List.Mem.head _))
      let key' : Value → Key := fun v => if v = .ref nt then keyAt row size j else c'.2.2.2 v
      have hkey : key' (.ref nt) = keyAt row size j := by simp [key']
      have hold : ∀ v ∈ c'.1, key' v = c'.2.2.2 v := by
        intro v hv'
        obtain ⟨a, ta, ua, rfl, hm⟩ := hd2 v hv'
        have : a < nt := hlt13 (a, _) (List.mem_append_left _ (List.mem_append_left _ (.tail _ (.tail _ hm))))
        simp [key', Nat.ne_of_lt this]
      have hmap : c'.1.map key' = c'.1.map c'.2.2.2 := List.map_congr_left hold
      have hlen' : c'.1.length < 2000 := by
        have e1 := congrArg List.length hd3
        rw [List.length_map, foldl_hpush_length, foldl_hpush_length] at e1
        have e2 : (allKeys (rows.take i) size).length + (rowKeys size row).length ≤ (allKeys rows size).length := by
          have h1 : rows = rows.take i ++ row :: rows.drop (i + 1) := by
            have := List.getElem?_eq_some_iff.mp hrow'
            obtain ⟨hlt, rfl⟩ := this
            simp
          conv => rhs; rw [h1]
          simp [allKeys]
        have e3 : ((rowKeys size row).take j).length ≤ (rowKeys size row).length := List.length_take_le' _ _
        simp at e1
        omega
      refine wpAny_call (heappush_call (gl := hideAll h₁₃ [lh]) (lt := fun a b => klt (key' a) (key' b)) (at_of (ws := [(lh, listOf c'.1.toArray c'.2.1)]) X T F₁₃ N₁₃ (fun q hq => by rw [List.mem_singleton.mp hq]; exact .tail _ (.head _))) (by show dp + 1 < 890; omega) (by show un + 3 < 8900; omega) hlen'
        (fun a o e => of_hideAll _ e) (hideAll_none _ (by simp)) ?_ ?_)
      · have hget : ∀ v ∈ c'.1 ++ [.ref nt], ∃ a ta ua, v = .ref a ∧ (hideAll h₁₃ [lh]).get? a = some (tupO (key' v).1 ta (key' v).2 ua) := by
          intro v hv'
          rcases List.mem_append.mp hv' with hv' | hv'
          · obtain ⟨a, ta, ua, e, hm⟩ := hd2 v hv'
            refine ⟨a, ta, ua, e, ?_⟩
            rw [hold v hv']
            refine hideAll_get _ (N₁₃ (a, _) (.tail _ (List.mem_append_left _ (List.mem_append_left _ (.tail _ (.tail _ hm)))))).1 ?_
            have := hd1 _ hm
            intro q; exact this (by rw [List.mem_singleton.mp q]; simp)
          · have e := List.mem_singleton.mp hv'
            subst e
            refine ⟨nt, t₁₁, t₁₂, rfl, ?_⟩
            rw [hkey]
            exact hideAll_get _ w1.1 (fun q => hntlh (List.mem_singleton.mp q))
        intro a ha b hb
        obtain ⟨a', ta, ua, rfl, ea⟩ := hget a ha
        obtain ⟨b', tb, ub, rfl, eb⟩ := hget b hb
        exact klt_tup ea eb
      · intro h₁₄ tk₁₄ K₁₄ e₁₄
        have F₁₄ := fr_after F₁₃ K₁₄ (by simp; exact fun e => w2.2.1 e.symm) (by simp; exact w2.2.2)
        have N₁₄ := news_after (news := (nt, tupO (keyAt row size j).1 t₁₁ (keyAt row size j).2 t₁₂) :: (L + 1, oc') :: c'.2.2.1 ++ own ++ own') (fun p hp => N₁₃ p (by
          rcases List.mem_append.mp hp with hp | hp
          · rcases List.mem_append.mp hp with hp | hp
            · rcases List.mem_cons.mp hp with rfl | hp
              · exact .head _
              · exact .tail _ (List.mem_append_left _ (List.mem_append_left _ (.tail _ hp)))
            · exact .tail _ (List.mem_append_left _ (List.mem_append_right _ hp))
          · exact .tail _ (List.mem_append_right _ hp))) K₁₄ (fun p hp q => by
          have q' := List.mem_singleton.mp q
          rcases List.mem_append.mp hp with hp | hp
          · rcases List.mem_append.mp hp with hp | hp
            · rcases List.mem_cons.mp hp with rfl | hp
              · exact hntlh q'
              · rcases List.mem_cons.mp hp with rfl | hp
                · exact hch q'
                · exact hd1 p hp (by rw [q']; simp)
            · rw [hown p hp] at q'; exact hlhI q'.symm
          · rw [hown' p hp] at q'; exact absurd (Heap.lt_size y1.1) (by rw [show lh = h₄.objs.size from q'.symm]; exact Nat.lt_irrefl _))
        have N₁₅ := news_app (news_one e₁₄ w2.2.1 w2.2.2) N₁₄
        dsimp only
        (repeat' (first | (k_unfold; try dsimp only) | ((fail_if_success (with_reducible (refine stopAt ?_ ?_; rotate_left; first | exact s1 | exact s2 | exact s3 | exact s4 | exact s5 | exact s6 | exact s8 | exact s9 | exact s10 | exact s7))); (fail_if_success (with_reducible first | show LCg.CompSrc _ _ _ _ _ _ _ _ _ _ _ _ _ _ | show LCg.CompEnd _ _ _ _ _ _ _ _ _ _ _ _ _ _)); first | walk1 | (dsimp only; walk1))))
        refine FEnd.mk' (sd (fun a b => klt (key' a) (key' b)) (.ref nt) 0 (c'.1 ++ [.ref nt]) c'.1.length, c'.2.1 + 1, (nt, tupO (keyAt row size j).1 t₁₁ (keyAt row size j).2 t₁₂) :: c'.2.2.1, key') F₁₄ (by (repeat' (first | exact fmn | refine fmc (@rfl (Option Value) (some _)) ?_))) N₁₅ ?_ ?_ ?_
        · intro p hp
          have hp : p ∈ ((lh, listOf (sd (fun a b => klt (key' a) (key' b)) (.ref nt) 0 (c'.1 ++ [.ref nt]) c'.1.length).toArray (c'.2.1 + 1)) :: (L + 1, oc') :: (nt, tupO (keyAt row size j).1 t₁₁ (keyAt row size j).2 t₁₂) :: c'.2.2.1) ++ own := hp
          rcases List.mem_append.mp hp with hp | hp
          · rcases List.mem_cons.mp hp with rfl | hp
            · exact .head _
            · rcases List.mem_cons.mp hp with rfl | hp
              · exact .tail _ (.tail _ (.head _))
              · rcases List.mem_cons.mp hp with rfl | hp
                · exact .tail _ (.head _)
                · exact List.mem_append_right _ (List.mem_append_left _ (List.mem_append_left _ (.tail _ (.tail _ hp))))
          · exact List.mem_append_right _ (List.mem_append_left _ (List.mem_append_right _ hp))
        · intro p hp; exact List.mem_append_right _ (List.mem_append_right _ hp)
        · refine ⟨?_, ?_, ?_⟩
          · intro q hq
            rcases List.mem_cons.mp hq with rfl | hq
            · have a1 := hlt13 _ (List.mem_append_right _ hoI')
              have a2 := hlt13 _ (List.mem_append_left _ (List.mem_append_right _ hoI))
              have a3 := hlt13 _ (List.mem_append_left _ (List.mem_append_left _ (.tail _ (.head _))))
              have a4 : nt ≠ lr := fun e => by have := w1.2.2; rw [show nt = lr from e, hol] at this; cases this
              simp only [List.mem_cons, List.not_mem_nil, or_false, not_or]
              exact ⟨Nat.ne_of_gt a1, Nat.ne_of_gt a2, a4, hntlh, Nat.ne_of_gt a3⟩
            · exact hd1 q hq
          · intro v hv'
            have hm := (sd_perm _ _ _ _ _ (by simp)).mem_iff.mp hv'
            rcases List.mem_or_eq_of_mem_set hm with hm | hm
            · rcases List.mem_append.mp hm with hm | hm
              · obtain ⟨a, ta, ua, e, hq⟩ := hd2 v hm
                exact ⟨a, ta, ua, e, .tail _ (by show (a, tupO (key' v).1 ta (key' v).2 ua) ∈ c'.2.2.1; rw [hold v hm]; exact hq)⟩
              · rw [List.mem_singleton.mp hm]
                exact ⟨nt, t₁₁, t₁₂, rfl, by show (nt, tupO (key' (.ref nt)).1 t₁₁ (key' (.ref nt)).2 t₁₂) ∈ _; rw [hkey]; exact .head _⟩
            · rw [hm]
              exact ⟨nt, t₁₁, t₁₂, rfl, by show (nt, tupO (key' (.ref nt)).1 t₁₁ (key' (.ref nt)).2 t₁₂) ∈ _; rw [hkey]; exact .head _⟩
          · show (sd (fun a b => klt (key' a) (key' b)) (.ref nt) 0 (c'.1 ++ [.ref nt]) c'.1.length).map key' = _
            rw [sd_map key' _ klt (fun _ => True) (fun _ _ _ _ => rfl) _ trivial _ _ (fun _ _ => trivial), hkey, List.map_append, hmap, hd3, List.map_singleton, hkey]
            have e : (rowKeys size row).take (j + 1) = (rowKeys size row).take j ++ [keyAt row size j] := by
              rw [List.take_add_one]
              simp [rowKeys, hj]
            rw [e, List.foldl_append]
            have e2 := congrArg List.length hd3
            rw [List.length_map] at e2
            rw [e2]
            rfl
    · rintro c' u' h₅ tk₅ hc' F₅ N₅
      dsimp only [kstB] at F₅ N₅ ⊢
      (repeat' (first | (k_unfold; try dsimp only) | ((fail_if_success (with_reducible (refine stopAt ?_ ?_; rotate_left; first | exact s1 | exact s2 | exact s3 | exact s4 | exact s5 | exact s6 | exact s8 | exact s9 | exact s10 | exact s7))); (fail_if_success (with_reducible first | show LCg.CompSrc _ _ _ _ _ _ _ _ _ _ _ _ _ _ | show LCg.CompEnd _ _ _ _ _ _ _ _ _ _ _ _ _ _)); first | walk1 | (dsimp only; walk1))))
      obtain ⟨hd1, hd2, hd3⟩ := hc'
      refine ⟨c', _, _, _, _, rfl, F₅, by (repeat' (first | exact fmn | refine fmc (@rfl (Option Value) (some _)) ?_)), N₅, fun p hp => List.mem_append_left _ hp, fun p hp => List.mem_append_right _ hp, fun q hq hm => hd1 q hq (.tail _ hm), hd2, ?_⟩
      rw [hd3]
      have e1 : (rowKeys size row).take row.length = rowKeys size row := List.take_of_length_le (by simp [rowKeys])
      rw [e1, List.take_add_one, hrow']
      simp [allKeys, List.foldl_append]
  · rintro c u h₃ tk₃ hc F₃ N₃
    dsimp only [kstB] at F₃ N₃ ⊢
    rw [show rows.take vs.length = rows by rw [hv.length, List.take_length]] at hc
    (repeat' (first | (k_unfold; try dsimp only) | ((fail_if_success (with_reducible (refine stopAt ?_ ?_; rotate_left; first | exact s1 | exact s2 | exact s3 | exact s4 | exact s5 | exact s6 | exact s8 | exact s9 | exact s10 | exact s7))); (fail_if_success (with_reducible first | show LCg.CompSrc _ _ _ _ _ _ _ _ _ _ _ _ _ _ | show LCg.CompEnd _ _ _ _ _ _ _ _ _ _ _ _ _ _)); first | walk1 | (dsimp only; walk1))))
    refine LCg.ListComp_U (F₀ := F₃) (by rfl) (by decide) (by rfl) (by decide) (by rfl) ?_
    (repeat' (first | (k_unfold; try dsimp only) | ((fail_if_success (with_reducible (refine stopAt ?_ ?_; rotate_left; first | exact s1 | exact s2 | exact s3 | exact s4 | exact s5 | exact s6 | exact s8 | exact s9 | exact s10 | exact s7))); (fail_if_success (with_reducible first | show LCg.CompSrc _ _ _ _ _ _ _ _ _ _ _ _ _ _ | show LCg.CompEnd _ _ _ _ _ _ _ _ _ _ _ _ _ _)); first | walk1 | (dsimp only; walk1))))
    rename IsRange _ _ _ _ _ _ _ _ => hr
    rename Fr _ _ _ _ => F₄
    rename News _ _ _ _ => N₄
    have hz : Builtin.Range.rangeSize 0 (size : Int) 1 = (size : Int) := by
      unfold Builtin.Range.rangeSize
      simp only [show (1 : Int) > 0 by decide, if_true]
      split <;> omega
    have hsm : Builtin.Range.small 0 (size : Int) 1 = true := by
      unfold Builtin.Range.small
      rw [hz]
      rw [if_pos (show (1 : Int) > 0 by decide)]
      unfold Builtin.Range.rangeFitsLong
      simp only [Bool.and_eq_true, Bool.or_eq_true, decide_eq_true_eq, beq_iff_eq]
      omega
    refine LCg.CompSrc.range rfl F₄ N₄ hr hsm hz (by rw [sizeLine_eq]; omega) ?_
    intro g'
    refine compRest_of (fun i ys news => ∃ c : HSt, news = (lh, listOf c.1.toArray c.2.1) :: (L + 1, oc') :: c.2.2.1 ∧ HOk [h₂.objs.size, lr, lh, L + 1] (restN klt i (colHeap rows size)) c ∧ IntsAre ys ((popK klt (colHeap rows size) i).map (·.2))) ⟨c, rfl, hc, .nil⟩ ?_ ?_
    · rintro i ys news v I oI C oC D m₂ h₅ tk₅ E' hi ⟨c', rfl, ⟨hd1, hd2, hd3⟩, hys⟩ ⟨tv, rfl⟩ hoC hm₂ F₅ N₅ hoff hne
      simp only [LCg.Off3] at hoff
      (repeat' (first | (k_unfold; try dsimp only) | ((fail_if_success (with_reducible (refine stopAt ?_ ?_; rotate_left; first | exact s1 | exact s2 | exact s3 | exact s4 | exact s5 | exact s6 | exact s8 | exact s9 | exact s10 | exact s7))); (fail_if_success (with_reducible first | show LCg.CompSrc _ _ _ _ _ _ _ _ _ _ _ _ _ _ | show LCg.CompEnd _ _ _ _ _ _ _ _ _ _ _ _ _ _)); first | walk1 | (dsimp only; walk1))))
      rename Fr _ _ _ _ => F₅
      obtain ⟨its, nn, tups, key⟩ := c'
      dsimp only at hd1 hd2 hd3 N₅ hoff ⊢
      have hlenK : its.length = (allKeys rows size).length - i := by
        have := congrArg List.length hd3
        rw [List.length_map, restN_length] at this
        unfold colHeap at this
        rw [foldl_hpush_length] at this
        simpa using this
      rcases List.eq_nil_or_concat its with e0 | ⟨init, y, e0⟩
      · rw [e0] at hlenK; simp at hlenK; omega
      rw [List.concat_eq_append] at e0
      subst e0
      have w4 := N₅ _ (.tail _ (.tail _ (.tail _ (.head _))))
      have hget : ∀ v ∈ init ++ [y], ∃ a ta ua, v = .ref a ∧ (hideAll h₅ [lh]).get? a = some (tupO (key v).1 ta (key v).2 ua) := by
        intro v hv'
        obtain ⟨a, ta, ua, e, hm⟩ := hd2 v hv'
        refine ⟨a, ta, ua, e, hideAll_get _ (N₅ (a, _) (.tail _ (.tail _ (.tail _ (.tail _ (.tail _ hm)))))).1 ?_⟩
        intro q; exact hd1 _ hm (by rw [List.mem_singleton.mp q]; simp)
      refine wpAny_call (heappop_call (gl := hideAll h₅ [lh]) (lt := fun a b => klt (key a) (key b)) (at_of (ws := [(lh, listOf (init ++ [y]).toArray nn)]) X T F₅ N₅ (fun q hq => by rw [List.mem_singleton.mp hq]; exact .tail _ (.tail _ (.tail _ (.head _))))) (by show dp + 1 < 880; omega) (by show un + 3 < 8800; omega)
        (by simp at hlenK; omega) (fun a o e => of_hideAll _ e) (hideAll_none _ (by simp)) ?_ ?_)
      · intro a ha b hb
        obtain ⟨a', ta, ua, rfl, ea⟩ := hget a ha
        obtain ⟨b', tb, ub, rfl, eb⟩ := hget b hb
        exact klt_tup ea eb
      · intro h₆ tk₆ K₆ e₆
        have offT := hoff.2.2.mem
        have F₆ := fr_after F₅ K₆ (by simp; exact fun e => w4.2.1 e.symm) (by simp; exact w4.2.2)
        have N₆ := news_after (news := (I, oI) :: (C, oC) :: (D, LCg.lst ys) :: (L + 1, oc') :: tups) (fun p hp => N₅ p (by
          rcases List.mem_cons.mp hp with rfl | hp
          · exact .head _
          · rcases List.mem_cons.mp hp with rfl | hp
            · exact .tail _ (.head _)
            · rcases List.mem_cons.mp hp with rfl | hp
              · exact .tail _ (.tail _ (.head _))
              · exact .tail _ (.tail _ (.tail _ (.tail _ hp))))) K₆ (fun p hp q => by
          have q' := List.mem_singleton.mp q
          rcases List.mem_cons.mp hp with rfl | hp
          · exact hoff.1.1 q'.symm
          · rcases List.mem_cons.mp hp with rfl | hp
            · exact hoff.1.2.1 q'.symm
            · rcases List.mem_cons.mp hp with rfl | hp
              · exact hoff.1.2.2 q'.symm
              · rcases List.mem_cons.mp hp with rfl | hp
                · exact hch q'
                · exact hd1 p hp (by rw [q']; simp))
        have N₇ := news_app (news_one e₆ w4.2.1 w4.2.2) N₆
        obtain ⟨v₀, hv₀, hvh⟩ : ∃ v₀, v₀ ∈ init ++ [y] ∧ (init ++ [y]).headD Value.none = v₀ ∧ (init ++ [y]).head? = some v₀ := by
          cases init with
          | nil => exact ⟨y, by simp, by simp, by simp⟩
          | cons a r => exact ⟨a, by simp, by simp, by simp⟩
        obtain ⟨a, ta, ua, e, hm⟩ := hd2 v₀ hv₀
        have hT : IsTup h₆ a #[.bytes (key v₀).1.toArray ta, .int (key v₀).2 ua] := ⟨_, (N₇ (a, _) (List.mem_append_right _ (.tail _ (.tail _ (.tail _ (.tail _ hm)))))).1, rfl, _, rfl⟩
        dsimp only
        rw [hvh.1, e]
        (repeat' (first | (k_unfold; try dsimp only) | ((fail_if_success (with_reducible (refine stopAt ?_ ?_; rotate_left; first | exact s1 | exact s2 | exact s3 | exact s4 | exact s5 | exact s6 | exact s8 | exact s9 | exact s10 | exact s7))); (fail_if_success (with_reducible first | show LCg.CompSrc _ _ _ _ _ _ _ _ _ _ _ _ _ _ | show LCg.CompEnd _ _ _ _ _ _ _ _ _ _ _ _ _ _)); first | walk1 | (dsimp only; walk1))))
        dsimp only
        refine item_tupleT (j := 1) hT (by omega) (by omega) (by rfl) (by rfl) ?_
        k_unfold
        dsimp only
        refine CompEnd.mk' (news' := (lh, listOf (siftup (fun a b => klt (key a) (key b)) (init.set 0 y) 0).toArray (nn + 1)) :: (L + 1, oc') :: tups) F₆ ?_ ⟨hoff.1, hoff.2.1, hoff.2.2⟩ trivial ⟨(siftup (fun a b => klt (key a) (key b)) (init.set 0 y) 0, nn + 1, tups, key), rfl, ⟨hd1, ?_, ?_⟩, ?_⟩
        · intro p hp
          refine N₇ p ?_
          rcases List.mem_cons.mp hp with rfl | hp
          · exact List.mem_append_right _ (.head _)
          · rcases List.mem_cons.mp hp with rfl | hp
            · exact List.mem_append_right _ (.tail _ (.head _))
            · rcases List.mem_cons.mp hp with rfl | hp
              · exact List.mem_append_right _ (.tail _ (.tail _ (.head _)))
              · rcases List.mem_cons.mp hp with rfl | hp
                · exact List.mem_append_left _ (.head _)
                · exact List.mem_append_right _ (.tail _ (.tail _ (.tail _ hp)))
        · intro v hv'
          refine hd2 v ?_
          rcases List.mem_or_eq_of_mem_set ((siftup_perm _ _ _).mem_iff.mp hv') with q | q
          · exact List.mem_append_left _ q
          · rw [q]; simp
        · show (siftup (fun a b => klt (key a) (key b)) (init.set 0 y) 0).map key = restN klt (i + 1) (colHeap rows size)
          rw [siftup_map key _ klt (fun _ => True) (fun _ _ _ _ => rfl) _ (fun _ _ => trivial), List.map_set, restN, ← hd3, List.map_append, List.map_singleton, hrest_snoc]
        · have e1 : popK klt (colHeap rows size) (i + 1) = popK klt (colHeap rows size) i ++ [key v₀] := by
            unfold popK
            rw [List.range_succ, List.map_append, List.map_singleton, ← hd3]
            have q : ((init ++ [y]).map key).headD default = key v₀ := by rw [List.headD_eq_head?_getD, List.head?_map, hvh.2]; rfl
            rw [q]
          rw [e1, List.map_append]
          exact hys.append (.cons _ _ .nil)
    · rintro ys news ⟨c', rfl, _, hys⟩
      (repeat' (first | (k_unfold; try dsimp only) | ((fail_if_success (with_reducible (refine stopAt ?_ ?_; rotate_left; first | exact s1 | exact s2 | exact s3 | exact s4 | exact s5 | exact s6 | exact s8 | exact s9 | exact s10 | exact s7))); (fail_if_success (with_reducible first | show LCg.CompSrc _ _ _ _ _ _ _ _ _ _ _ _ _ _ | show LCg.CompEnd _ _ _ _ _ _ _ _ _ _ _ _ _ _)); first | walk1 | (dsimp only; walk1))))
      rename Fr _ _ _ _ => F₅
      rename News _ _ _ _ => N₅
      have w0 := N₅ _ (.head _)
      refine h _ _ _ ys ys.length (fun b o hb e => F₅.keep b o (by rw [hg]; exact e)) ?_ w0.1 hys
      have := w0.2.2
      rw [hg] at this
      exact this
end Mine
end

section
open PySem PySem.W PySem.Calls PyProof.Rows PySem.MeetsSeq
set_option Elab.async false
set_option maxRecDepth 100000
set_option maxHeartbeats 4000000
set_option linter.unusedVariables false
namespace Mine
theorem fill6 : hd.heap_1 = hd.heap_1 ∧ Challenge.rw_oy0121_01 = Challenge.rw_oy0121_01 := by k_fill; exact ⟨rfl, rfl⟩
/-- a pair of numbers -/
noncomputable abbrev tupI (i : Int) (t : Tok) (j : Int) (u : Tok) : Obj := { cls := .type "tuple", data := .seq #[.int i t, .int j u] }
theorem klt_tupI {w : World} {g : Heap} {a b : Addr} {ka kb : KeyI} {ta ua tb ub : Tok} (ha : g.get? a = some (tupI ka.1 ta ka.2 ua)) (hb : g.get? b = some (tupI kb.1 tb kb.2 ub)) : LtIs w g (.ref a) (.ref b) (kltI ka kb) := by
  have := tuple2_lt (w := w) ha rfl rfl hb rfl rfl (EqGives.int _ _ _ _) (EqGives.int _ _ _ _) (ltGives_int _ _ _ _) (ltGives_int _ _ _ _)
  have e : (if (ka.1 == kb.1) = true then (if (ka.2 == kb.2) = true then false else decide (ka.2 < kb.2)) else decide (ka.1 < kb.1)) = kltI ka kb := by
    unfold kltI
    by_cases h1 : ka.1 = kb.1
    · by_cases h2 : ka.2 = kb.2
      · simp [h1, h2]
      · simp [h1, h2]
    · simp [h1]
  rw [e] at this
  exact this
noncomputable abbrev HStI := List Value × Nat × List (Addr × Obj) × (Value → KeyI)
noncomputable def HOkI (apart : List Addr) (ks : List KeyI) (c : HStI) : Prop :=
  (∀ q ∈ c.2.2.1, q.1 ∉ apart) ∧ (∀ v ∈ c.1, ∃ a t u, v = .ref a ∧ (a, tupI (c.2.2.2 v).1 t (c.2.2.2 v).2 u) ∈ c.2.2.1) ∧ c.1.map c.2.2.2 = ks
theorem rings_call {w : World} {dp un : Nat} {fr gd} {s : Shared} {h₀ : Heap} {lc : Addr} {vc : List Value} {col : List Int} {R : Result → Shared → Prop}
    (H : At w h₀ s []) (hdp : dp < 870) (hu : un < 8700) (hl : s.heap.IsList lc vc.toArray) (hv : IntsAre vc col) (hlen : col.length < 1000) (hcol : ∀ c ∈ col, 0 ≤ c ∧ c < 256)
    (h : ∀ h' tk D vs' n, KeepBut [] s.heap h' → s.heap.get? D = none → h'.get? D = some (listOf vs'.toArray n) → BytesAre vs' (ringsF col) → R (.ok (.ret (.ref D))) { s with heap := h', toks := tk }) :
    codeAny (model PP w) (AA dp un fr gd) (.call (.ref 211) ⟨[.ref lc], []⟩) R s := by
  refine enterC H (by k_is) (by k_is) (by show dp < 1000; omega) (BindsTo.of_eq rfl) (by rfl) (by decide) ?_
  intro p loose mg mb g L h₁ tk₁ cells hg X T F N hC hlt'
  obtain ⟨oc, oc2, hoc, hcd, hcd2⟩ := CellsAre.two hC
  subst hoc
  clear hC
  k_fold
  replace hcd := (show oc.data = .cell none from hcd)
  replace hcd2 := (show oc2.data = .cell (some (.ref lc)) from hcd2)
  rw [List.append_nil] at N
  have hlg : g.IsList lc vc.toArray := by rw [hg]; exact hl
  have hvl : vc.length = col.length := hv.length
  have hvat : ∀ (i : Nat) (n : Int), col[i]? = some n → ∃ t, vc[i]? = some (Value.int n t) := fun i n e => hv.get i n e
  ((repeat' (first | walk_at "use" | walk_at "cutx" | (k_unfold; try dsimp only) | ((fail_if_success (with_reducible (refine stopAt ?_ ?_; rotate_left; first | exact s1 | exact s2 | exact s3 | exact s4 | exact s5 | exact s6 | exact s8 | exact s11 | exact s12 | exact s9 | exact s10 | exact s7))); (fail_if_success (with_reducible first | show LCg.CompSrc _ _ _ _ _ _ _ _ _ _ _ _ _ _ | show LCg.CompEnd _ _ _ _ _ _ _ _ _ _ _ _ _ _)); first | walk1 | (dsimp only; walk1)))); walk_at "kend")
  walk1
  ((repeat' (first | walk_at "use" | walk_at "cutx" | (k_unfold; try dsimp only) | ((fail_if_success (with_reducible (refine stopAt ?_ ?_; rotate_left; first | exact s1 | exact s2 | exact s3 | exact s4 | exact s5 | exact s6 | exact s8 | exact s11 | exact s12 | exact s9 | exact s10 | exact s7))); (fail_if_success (with_reducible first | show LCg.CompSrc _ _ _ _ _ _ _ _ _ _ _ _ _ _ | show LCg.CompEnd _ _ _ _ _ _ _ _ _ _ _ _ _ _)); first | walk1 | (dsimp only; walk1)))); walk_at "kend")
  refine LCg.ListComp_U (F₀ := F) (by rfl) (by decide) (by rfl) (by decide) (by rfl) ?_
  ((repeat' (first | walk_at "use" | walk_at "cutx" | (k_unfold; try dsimp only) | ((fail_if_success (with_reducible (refine stopAt ?_ ?_; rotate_left; first | exact s1 | exact s2 | exact s3 | exact s4 | exact s5 | exact s6 | exact s8 | exact s11 | exact s12 | exact s9 | exact s10 | exact s7))); (fail_if_success (with_reducible first | show LCg.CompSrc _ _ _ _ _ _ _ _ _ _ _ _ _ _ | show LCg.CompEnd _ _ _ _ _ _ _ _ _ _ _ _ _ _)); first | walk1 | (dsimp only; walk1)))); walk_at "kend")
  refine len_base F hlg (by rw [hv.length]; omega) ?_
  intro t₂ tk₂
  ((repeat' (first | walk_at "use" | walk_at "cutx" | (k_unfold; try dsimp only) | ((fail_if_success (with_reducible (refine stopAt ?_ ?_; rotate_left; first | exact s1 | exact s2 | exact s3 | exact s4 | exact s5 | exact s6 | exact s8 | exact s11 | exact s12 | exact s9 | exact s10 | exact s7))); (fail_if_success (with_reducible first | show LCg.CompSrc _ _ _ _ _ _ _ _ _ _ _ _ _ _ | show LCg.CompEnd _ _ _ _ _ _ _ _ _ _ _ _ _ _)); first | walk1 | (dsimp only; walk1)))); walk_at "kend")
  rename IsRange _ _ _ _ _ _ _ _ => hr
  rename Fr _ _ _ _ => F₁
  rename News _ _ _ _ => N₁
  try rw [hvl] at hr
  obtain ⟨ol, hol, _⟩ := id hlg
  have hcr1 : L + 1 + 1 ≠ lc := fun e => by have := (N₁ _ (.head _)).2.2; rw [show (L + 1 + 1, oc).1 = lc from e, hol] at this; cases this
  have hcr2 : L + 1 ≠ lc := fun e => by have := (N₁ _ (.tail _ (.head _))).2.2; rw [show (L + 1, oc2).1 = lc from e, hol] at this; cases this
  refine LCg.CompSrc.range rfl F₁ N₁ hr (range_small _ (by omega)) (range_size _) (by rw [sizeLine_eq]; omega) ?_
  intro g'
  refine compRest_of (fun i ys news => ∃ c : HStI, news = (L + 1 + 1, oc) :: (L + 1, oc2) :: c.2.2.1 ∧ HOkI [lc, L + 1 + 1, L + 1] ((pairsF col).take i) c ∧ c.1 = ys) ⟨([], 0, [], fun _ => (0, 0)), rfl, ⟨(fun _ hq => nomatch hq), (fun _ hq => nomatch hq), by simp⟩, rfl⟩ ?_ ?_
  · rintro i ys news v I oI C oC D m₂ h₅ tk₅ E' hi ⟨c', rfl, ⟨hd1, hd2, hd3⟩, rfl⟩ ⟨tv, rfl⟩ hoC hm₂ F₅ N₅ hoff hne
    obtain ⟨its, nn, tups, key⟩ := c'
    dsimp only at hd1 hd2 hd3 N₅ hoff ⊢
    simp only [LCg.Off3] at hoff
    rw [show (0 : Int) + (i : Int) = (i : Int) by omega] at hm₂
    ((repeat' (first | walk_at "use" | walk_at "cutx" | (k_unfold; try dsimp only) | ((fail_if_success (with_reducible (refine stopAt ?_ ?_; rotate_left; first | exact s1 | exact s2 | exact s3 | exact s4 | exact s5 | exact s6 | exact s8 | exact s11 | exact s12 | exact s9 | exact s10 | exact s7))); (fail_if_success (with_reducible first | show LCg.CompSrc _ _ _ _ _ _ _ _ _ _ _ _ _ _ | show LCg.CompEnd _ _ _ _ _ _ _ _ _ _ _ _ _ _)); first | walk1 | (dsimp only; walk1)))); walk_at "kend")
    rename Fr _ _ _ _ => F₅
    obtain ⟨tc, htc⟩ := hvat i (col[i]) (by simp)
    refine item_at (hlg.at fun o e => F₅.keep lc o e) (by omega) (by rw [Int.toNat_natCast]; exact htc) (by omega) ?_
    ((repeat' (first | walk_at "use" | walk_at "cutx" | (k_unfold; try dsimp only) | ((fail_if_success (with_reducible (refine stopAt ?_ ?_; rotate_left; first | exact s1 | exact s2 | exact s3 | exact s4 | exact s5 | exact s6 | exact s8 | exact s11 | exact s12 | exact s9 | exact s10 | exact s7))); (fail_if_success (with_reducible first | show LCg.CompSrc _ _ _ _ _ _ _ _ _ _ _ _ _ _ | show LCg.CompEnd _ _ _ _ _ _ _ _ _ _ _ _ _ _)); first | walk1 | (dsimp only; walk1)))); walk_at "kend")
    rename Fr _ _ _ _ => F₆
    rename News _ _ _ _ => N₆
    rename_i nt h₆ hlt6
    have w1 := N₆ _ (.head _)
    let key' : Value → KeyI := fun v => if v = .ref nt then (col[i], (i : Int)) else key v
    have hkey : key' (.ref nt) = (col[i], (i : Int)) := by simp [key']
    have hold : ∀ v ∈ its, key' v = key v := by
      intro v hv'
      obtain ⟨a, ta, ua, rfl, hm⟩ := hd2 v hv'
      have : a < nt := allLt_mem hlt6.2.2.2.2.2 (a, _) hm
      simp [key', Nat.ne_of_lt this]
    obtain ⟨hI, hC, hD, hc1, hc2, _⟩ := hlt6
    refine CompEnd.mk' (news' := (L + 1 + 1, oc) :: (L + 1, oc2) :: (nt, tupI col[i] tc i tv) :: tups) F₆ ?_ ⟨hoff.1, hoff.2.1, ⟨Nat.ne_of_gt hI, Nat.ne_of_gt hC, Nat.ne_of_gt hD⟩, hoff.2.2⟩ trivial ⟨(its ++ [.ref nt], 0, (nt, tupI col[i] tc i tv) :: tups, key'), rfl, ⟨?_, ?_, ?_⟩, rfl⟩
    · intro p hp
      refine N₆ p ?_
      (revert p; refine fmc ?_ fun p hp => ?_)
      · exact .tail _ (.head _)
      · (revert p; refine fmc ?_ fun p hp => ?_)
        · exact .tail _ (.tail _ (.head _))
        · (revert p; refine fmc ?_ fun p hp => ?_)
          · exact .tail _ (.tail _ (.tail _ (.head _)))
          · (revert p; refine fmc ?_ fun p hp => ?_)
            · exact .tail _ (.tail _ (.tail _ (.tail _ (.head _))))
            · (revert p; refine fmc ?_ fun p hp => ?_)
              · exact .tail _ (.tail _ (.tail _ (.tail _ (.tail _ (.head _)))))
              · (revert p; refine fmc ?_ fun p hp => ?_)
                · exact .head _
                · exact .tail _ (.tail _ (.tail _ (.tail _ (.tail _ (.tail _ hp)))))
    · intro q hq
      (revert q; refine fmc ?_ fun q hq => ?_)
      · have a4 : nt ≠ lc := fun e => by have := w1.2.2; rw [show nt = lc from e, hol] at this; cases this
        simp only [List.mem_cons, List.not_mem_nil, or_false, not_or]
        exact ⟨a4, Nat.ne_of_gt hc1, Nat.ne_of_gt hc2⟩
      · exact hd1 q hq
    · intro v hv'
      rcases List.mem_append.mp hv' with hm | hm
      · obtain ⟨a, ta, ua, e, hq⟩ := hd2 v hm
        exact ⟨a, ta, ua, e, .tail _ (by show (a, tupI (key' v).1 ta (key' v).2 ua) ∈ tups; rw [hold v hm]; exact hq)⟩
      · rw [List.mem_singleton.mp hm]
        exact ⟨nt, tc, tv, rfl, by show (nt, tupI (key' (.ref nt)).1 tc (key' (.ref nt)).2 tv) ∈ _; rw [hkey]; exact .head _⟩
    · show (its ++ [Value.ref nt]).map key' = _
      rw [List.map_append, List.map_congr_left hold, hd3, List.map_singleton, hkey, List.take_add_one]
      simp [pairsF, hi]
  · rintro ys news ⟨c', rfl, hc', rfl⟩
    rw [List.take_of_length_le (by simp [pairsF])] at hc'
    ((repeat' (first | walk_at "use" | walk_at "cutx" | (k_unfold; try dsimp only) | ((fail_if_success (with_reducible (refine stopAt ?_ ?_; rotate_left; first | exact s1 | exact s2 | exact s3 | exact s4 | exact s5 | exact s6 | exact s8 | exact s11 | exact s12 | exact s9 | exact s10 | exact s7))); (fail_if_success (with_reducible first | show LCg.CompSrc _ _ _ _ _ _ _ _ _ _ _ _ _ _ | show LCg.CompEnd _ _ _ _ _ _ _ _ _ _ _ _ _ _)); first | walk1 | (dsimp only; walk1)))); walk_at "kend")
    rename Fr _ _ _ _ => F₂
    rename News _ _ _ _ => N₂
    rename_i lp h₂ tk₃ ho1 _ _
    obtain ⟨hd1, hd2, hd3⟩ := hc'
    obtain ⟨its, nn, tups, key⟩ := c'
    dsimp only at hd1 hd2 hd3 N₂ ho1 ⊢
    refine storeX_C F₂ N₂ (by rfl) (UpdF.tail (by show lp ≠ L + 1 + 1; exact Ne.symm ho1.1) (UpdF.head ?_)) hcd ?_
    · intro p hp
      (revert p; refine fmc ?_ fun p hp => ?_)
      · exact Nat.ne_of_lt (Nat.lt_succ_self _)
      · exact fun e => hd1 p hp (by rw [e]; simp)
    intro h₃ oc' F₃ N₃ hcd'
    ((repeat' (first | walk_at "use" | walk_at "cutx" | (k_unfold; try dsimp only) | ((fail_if_success (with_reducible (refine stopAt ?_ ?_; rotate_left; first | exact s1 | exact s2 | exact s3 | exact s4 | exact s5 | exact s6 | exact s8 | exact s11 | exact s12 | exact s9 | exact s10 | exact s7))); (fail_if_success (with_reducible first | show LCg.CompSrc _ _ _ _ _ _ _ _ _ _ _ _ _ _ | show LCg.CompEnd _ _ _ _ _ _ _ _ _ _ _ _ _ _)); first | walk1 | (dsimp only; walk1)))); walk_at "kend")
    have w1 := N₃ _ (.head _)
    have hlenK : its.length = col.length := by have := congrArg List.length hd3; simpa [pairsF] using this
    have hlp : ∀ q ∈ tups, q.1 ≠ lp := off1_mem ho1.2.2
    have hget : ∀ v ∈ its, ∃ a ta ua, v = .ref a ∧ (hideAll h₃ [lp]).get? a = some (tupI (key v).1 ta (key v).2 ua) := by
      intro v hv'
      obtain ⟨a, ta, ua, e, hm⟩ := hd2 v hv'
      refine ⟨a, ta, ua, e, hideAll_get _ (N₃ (a, _) (.tail _ (.tail _ (.tail _ hm)))).1 ?_⟩
      intro q; exact hlp _ hm (List.mem_singleton.mp q)
    refine wpAny_call (heapify_call (gl := hideAll h₃ [lp]) (lt := fun a b => kltI (key a) (key b)) (at_of (ws := [(lp, LCg.lst its)]) X T F₃ N₃ (fun q hq => by (revert q; refine fms ?_); exact .head _)) (by show dp + 1 < 880; omega) (by show un + 3 < 8800; omega)
        (by omega) (fun a o e => of_hideAll _ e) (hideAll_none _ (by simp)) ?_ ?_)
    · intro a ha b hb
      obtain ⟨a', ta, ua, rfl, ea⟩ := hget a ha
      obtain ⟨b', tb, ub, rfl, eb⟩ := hget b hb
      exact klt_tupI ea eb
    intro h₄ tk₄ K₄ e₄
    have F₄ := fr_after F₃ K₄ (by simp; exact fun e => w1.2.1 e.symm) (by simp; exact w1.2.2)
    have N₄ := news_after (news := (L + 1 + 1, oc') :: (L + 1, oc2) :: tups) (fun p hp => N₃ p (.tail _ hp)) K₄ (fun p hp q => by
      have q' := List.mem_singleton.mp q
      rcases List.mem_cons.mp hp with rfl | hp
      · exact ho1.1 q'
      · rcases List.mem_cons.mp hp with rfl | hp
        · exact ho1.2.1 q'
        · exact hlp p hp q')
    have N₅ := news_app (news_one e₄ w1.2.1 w1.2.2) N₄
    dsimp only
    ((repeat' (first | walk_at "use" | walk_at "cutx" | (k_unfold; try dsimp only) | ((fail_if_success (with_reducible (refine stopAt ?_ ?_; rotate_left; first | exact s1 | exact s2 | exact s3 | exact s4 | exact s5 | exact s6 | exact s8 | exact s11 | exact s12 | exact s9 | exact s10 | exact s7))); (fail_if_success (with_reducible first | show LCg.CompSrc _ _ _ _ _ _ _ _ _ _ _ _ _ _ | show LCg.CompEnd _ _ _ _ _ _ _ _ _ _ _ _ _ _)); first | walk1 | (dsimp only; walk1)))); walk_at "kend")
    refine LCg.Assign_ListComp_U (F₀ := F₄) (by rfl) (by with_unfolding_all rfl) (by rfl) (by decide) (by rfl) (by decide) (by rfl) (by rfl) (by rfl) ?_
    ((repeat' (first | walk_at "use" | walk_at "cutx" | (k_unfold; try dsimp only) | ((fail_if_success (with_reducible (refine stopAt ?_ ?_; rotate_left; first | exact s1 | exact s2 | exact s3 | exact s4 | exact s5 | exact s6 | exact s8 | exact s11 | exact s12 | exact s9 | exact s10 | exact s7))); (fail_if_success (with_reducible first | show LCg.CompSrc _ _ _ _ _ _ _ _ _ _ _ _ _ _ | show LCg.CompEnd _ _ _ _ _ _ _ _ _ _ _ _ _ _)); first | walk1 | (dsimp only; walk1)))); walk_at "kend")
    refine len_base F₄ hlg (by omega) ?_
    intro t₅ tk₅
    ((repeat' (first | walk_at "use" | walk_at "cutx" | (k_unfold; try dsimp only) | ((fail_if_success (with_reducible (refine stopAt ?_ ?_; rotate_left; first | exact s1 | exact s2 | exact s3 | exact s4 | exact s5 | exact s6 | exact s8 | exact s11 | exact s12 | exact s9 | exact s10 | exact s7))); (fail_if_success (with_reducible first | show LCg.CompSrc _ _ _ _ _ _ _ _ _ _ _ _ _ _ | show LCg.CompEnd _ _ _ _ _ _ _ _ _ _ _ _ _ _)); first | walk1 | (dsimp only; walk1)))); walk_at "kend")
    rename IsRange _ _ _ _ _ _ _ _ => hr5
    rename Fr _ _ _ _ => F₅
    rename News _ _ _ _ => N₅
    try rw [hvl] at hr5
    refine LCg.CompSrc.range rfl F₅ N₅ hr5 (range_small _ (by omega)) (range_size _) (by rw [sizeLine_eq]; omega) ?_
    intro g''
    let kl₀ := heapifyF kltI (pairsF col)
    have hmapH : (heapifyF (fun a b => kltI (key a) (key b)) its).map key = kl₀ := by
      rw [heapifyF_map key _ kltI (fun _ _ => rfl), hd3]
    refine compRest_of (fun i ys news => ∃ c : HStI, news = (lp, listOf c.1.toArray c.2.1) :: (L + 1 + 1, oc') :: (L + 1, oc2) :: tups ∧ HOkI [lp] (restN kltI i kl₀) (c.1, c.2.1, tups, key) ∧ (∀ v ∈ c.1, v ∈ its) ∧ (∀ v ∈ ys, v ∈ its) ∧ ys.map key = popK kltI kl₀ i)
      ⟨(heapifyF (fun a b => kltI (key a) (key b)) its, its.length, [], key), rfl, ⟨fun q hq hm => hlp q hq (List.mem_singleton.mp hm), fun v hv' => hd2 v ((heapifyF_perm _ _).mem_iff.mp hv'), hmapH⟩, (fun v hv' => (heapifyF_perm _ _).mem_iff.mp hv'), (fun _ hq => nomatch hq), rfl⟩ ?_ ?_
    · rintro i ys news v I oI C oC D m₂ h₅ tk₅ E' hi ⟨c', rfl, ⟨hf1, hf2, hf3⟩, hits', hys1, hys2⟩ ⟨tv, rfl⟩ hoC hm₂ F₆ N₆ hoff hne
      obtain ⟨its', nn', tups', key''⟩ := c'
      dsimp only at hf1 hf2 hf3 N₆ hoff ⊢
      simp only [LCg.Off3] at hoff
      ((repeat' (first | walk_at "use" | walk_at "cutx" | (k_unfold; try dsimp only) | ((fail_if_success (with_reducible (refine stopAt ?_ ?_; rotate_left; first | exact s1 | exact s2 | exact s3 | exact s4 | exact s5 | exact s6 | exact s8 | exact s11 | exact s12 | exact s9 | exact s10 | exact s7))); (fail_if_success (with_reducible first | show LCg.CompSrc _ _ _ _ _ _ _ _ _ _ _ _ _ _ | show LCg.CompEnd _ _ _ _ _ _ _ _ _ _ _ _ _ _)); first | walk1 | (dsimp only; walk1)))); walk_at "kend")
      rename Fr _ _ _ _ => F₆
      have hlenK' : its'.length = col.length - i := by
        have := congrArg List.length hf3
        rw [List.length_map, restN_length] at this
        rw [show kl₀.length = (pairsF col).length from (heapifyF_perm _ _).length_eq] at this
        simpa [pairsF] using this
      rcases List.eq_nil_or_concat its' with e0 | ⟨init, y, e0⟩
      · rw [e0] at hlenK'; simp at hlenK'; omega
      rw [List.concat_eq_append] at e0
      subst e0
      have w4 := N₆ _ (.tail _ (.tail _ (.tail _ (.head _))))
      have hget : ∀ v ∈ init ++ [y], ∃ a ta ua, v = .ref a ∧ (hideAll h₅ [lp]).get? a = some (tupI (key v).1 ta (key v).2 ua) := by
        intro v hv'
        obtain ⟨a, ta, ua, e, hm⟩ := hf2 v hv'
        refine ⟨a, ta, ua, e, hideAll_get _ (N₆ (a, _) (.tail _ (.tail _ (.tail _ (.tail _ (.tail _ (.tail _ hm))))))).1 ?_⟩
        exact hf1 _ hm
      refine wpAny_call (heappop_call (gl := hideAll h₅ [lp]) (lt := fun a b => kltI (key a) (key b)) (at_of (ws := [(lp, listOf (init ++ [y]).toArray nn')]) X T F₆ N₆ (fun q hq => by (revert q; refine fms ?_); exact .tail _ (.tail _ (.tail _ (.head _))))) (by show dp + 1 < 880; omega) (by show un + 3 < 8800; omega)
        (by simp at hlenK'; omega) (fun a o e => of_hideAll _ e) (hideAll_none _ (by simp)) ?_ ?_)
      · intro a ha b hb
        obtain ⟨a', ta, ua, rfl, ea⟩ := hget a ha
        obtain ⟨b', tb, ub, rfl, eb⟩ := hget b hb
        exact klt_tupI ea eb
      · intro h₆ tk₆ K₆ e₆
        have F₇ := fr_after F₆ K₆ (by simp; exact fun e => w4.2.1 e.symm) (by simp; exact w4.2.2)
        have N₇ := news_after (news := (I, oI) :: (C, oC) :: (D, LCg.lst ys) :: (L + 1 + 1, oc') :: (L + 1, oc2) :: tups) (fun p hp => N₆ p (by
          (revert p; refine fmc ?_ fun p hp => ?_)
          · exact .head _
          · (revert p; refine fmc ?_ fun p hp => ?_)
            · exact .tail _ (.head _)
            · (revert p; refine fmc ?_ fun p hp => ?_)
              · exact .tail _ (.tail _ (.head _))
              · exact .tail _ (.tail _ (.tail _ (.tail _ hp))))) K₆ (fun p hp q => by
          have q' := List.mem_singleton.mp q
          rcases List.mem_cons.mp hp with rfl | hp
          · exact hoff.1.1 q'.symm
          · rcases List.mem_cons.mp hp with rfl | hp
            · exact hoff.1.2.1 q'.symm
            · rcases List.mem_cons.mp hp with rfl | hp
              · exact hoff.1.2.2 q'.symm
              · rcases List.mem_cons.mp hp with rfl | hp
                · exact ho1.1 q'
                · rcases List.mem_cons.mp hp with rfl | hp
                  · exact ho1.2.1 q'
                  · exact hlp p hp q')
        have N₈ := news_app (news_one e₆ w4.2.1 w4.2.2) N₇
        obtain ⟨v₀, hv₀, hvh⟩ : ∃ v₀, v₀ ∈ init ++ [y] ∧ (init ++ [y]).headD Value.none = v₀ ∧ (init ++ [y]).head? = some v₀ := by
          cases init with
          | nil => exact ⟨y, by simp, by simp, by simp⟩
          | cons a r => exact ⟨a, by simp, by simp, by simp⟩
        dsimp only
        rw [hvh.1]
        (first | walk_at "use" | k_unfold | skip)
        (try dsimp only)
        refine CompEnd.mk' (news' := (lp, listOf (siftup (fun a b => kltI (key a) (key b)) (init.set 0 y) 0).toArray (nn' + 1)) :: (L + 1 + 1, oc') :: (L + 1, oc2) :: tups) F₇ ?_ hoff trivial ⟨(siftup (fun a b => kltI (key a) (key b)) (init.set 0 y) 0, nn' + 1, tups, key), rfl, ⟨hf1, ?_, ?_⟩, ?_, ?_, ?_⟩
        · intro p hp
          refine N₈ p ?_
          (revert p; refine fmc ?_ fun p hp => ?_)
          · exact List.mem_append_right _ (.head _)
          · (revert p; refine fmc ?_ fun p hp => ?_)
            · exact List.mem_append_right _ (.tail _ (.head _))
            · (revert p; refine fmc ?_ fun p hp => ?_)
              · exact List.mem_append_right _ (.tail _ (.tail _ (.head _)))
              · (revert p; refine fmc ?_ fun p hp => ?_)
                · exact List.mem_append_left _ (.head _)
                · exact List.mem_append_right _ (.tail _ (.tail _ (.tail _ hp)))
        · intro v hv'
          refine hf2 v ?_
          rcases List.mem_or_eq_of_mem_set ((siftup_perm _ _ _).mem_iff.mp hv') with q | q
          · exact List.mem_append_left _ q
          · rw [q]; simp
        · show (siftup (fun a b => kltI (key a) (key b)) (init.set 0 y) 0).map key = restN kltI (i + 1) kl₀
          rw [siftup_map key _ kltI (fun _ => True) (fun _ _ _ _ => rfl) _ (fun _ _ => trivial), List.map_set, restN, ← hf3, List.map_append, List.map_singleton, hrest_snoc]
        · intro v hv'
          refine hits' v ?_
          rcases List.mem_or_eq_of_mem_set ((siftup_perm _ _ _).mem_iff.mp hv') with q | q
          · exact List.mem_append_left _ q
          · rw [q]; simp
        · intro v hv'
          rcases List.mem_append.mp hv' with q | q
          · exact hys1 v q
          · rw [List.mem_singleton.mp q]; exact hits' _ hv₀
        · rw [List.map_append, hys2, popK_succ, ← hf3, List.map_singleton]
          have q : ((init ++ [y]).map key).headD default = key v₀ := by rw [List.headD_eq_head?_getD, List.head?_map, hvh.2]; rfl
          rw [q]
    · rintro ys news ⟨c', rfl, _, _, hys1, hys2⟩
      ((repeat' (first | walk_at "use" | walk_at "cutx" | (k_unfold; try dsimp only) | ((fail_if_success (with_reducible (refine stopAt ?_ ?_; rotate_left; first | exact s1 | exact s2 | exact s3 | exact s4 | exact s5 | exact s6 | exact s8 | exact s11 | exact s12 | exact s9 | exact s10 | exact s7))); (fail_if_success (with_reducible first | show LCg.CompSrc _ _ _ _ _ _ _ _ _ _ _ _ _ _ | show LCg.CompEnd _ _ _ _ _ _ _ _ _ _ _ _ _ _)); first | walk1 | (dsimp only; walk1)))); walk_at "kend")
      rename Fr _ _ _ _ => F₆
      rename News _ _ _ _ => N₆
      rename_i lo _ _ ho2 _ _ lrg _ hl1 _ _ _ _ lsn _ hl2 h₆ _ _
      obtain ⟨its'', nn'', _, _⟩ := c'
      dsimp only at N₆
      have hord : ys.map key = ordF col := hys2
      have hyl : ys.length = col.length := by have := congrArg List.length hys2; simpa [popK] using this
      refine wpAny_For ?_
      ((repeat' (first | walk_at "use" | walk_at "cutx" | (k_unfold; try dsimp only) | ((fail_if_success (with_reducible (refine stopAt ?_ ?_; rotate_left; first | exact s1 | exact s2 | exact s3 | exact s4 | exact s5 | exact s6 | exact s8 | exact s11 | exact s12 | exact s9 | exact s10 | exact s7))); (fail_if_success (with_reducible first | show LCg.CompSrc _ _ _ _ _ _ _ _ _ _ _ _ _ _ | show LCg.CompEnd _ _ _ _ _ _ _ _ _ _ _ _ _ _)); first | walk1 | (dsimp only; walk1)))); walk_at "kend")
      refine len_base F₆ hlg (by omega) ?_
      intro t₆ tk₆
      ((repeat' (first | walk_at "use" | walk_at "cutx" | (k_unfold; try dsimp only) | ((fail_if_success (with_reducible (refine stopAt ?_ ?_; rotate_left; first | exact s1 | exact s2 | exact s3 | exact s4 | exact s5 | exact s6 | exact s8 | exact s11 | exact s12 | exact s9 | exact s10 | exact s7))); (fail_if_success (with_reducible first | show LCg.CompSrc _ _ _ _ _ _ _ _ _ _ _ _ _ _ | show LCg.CompEnd _ _ _ _ _ _ _ _ _ _ _ _ _ _)); first | walk1 | (dsimp only; walk1)))); walk_at "kend")
      rename IsRange _ _ _ _ _ _ _ _ => hr6
      rename Fr _ _ _ _ => F₇
      rename News _ _ _ _ => N₇
      rename_i h₇ _ _ _ _ _
      try rw [hvl] at hr6
      let stat : List (Addr × Obj) := (lo, LCg.lst ys) :: (lp, listOf its''.toArray nn'') :: (L + 1 + 1, oc') :: (L + 1, oc2) :: tups
      have hstat_sn : ∀ q ∈ stat, q.1 < lsn := by
        intro q hq
        (revert q; refine fmc ?_ fun q hq => ?_)
        · exact hl2.2.1
        · (revert q; refine fmc ?_ fun q hq => ?_)
          · exact hl2.2.2.1
          · (revert q; refine fmc ?_ fun q hq => ?_)
            · exact hl2.2.2.2.1
            · (revert q; refine fmc ?_ fun q hq => ?_)
              · exact hl2.2.2.2.2.1
              · exact allLt_mem hl2.2.2.2.2.2 q hq
      have hstat_rg : ∀ q ∈ stat, q.1 < lrg := by
        intro q hq
        (revert q; refine fmc ?_ fun q hq => ?_)
        · exact hl1.1
        · (revert q; refine fmc ?_ fun q hq => ?_)
          · exact hl1.2.1
          · (revert q; refine fmc ?_ fun q hq => ?_)
            · exact hl1.2.2.1
            · (revert q; refine fmc ?_ fun q hq => ?_)
              · exact hl1.2.2.2.1
              · exact allLt_mem hl1.2.2.2.2 q hq
      have hlsnI : lsn < h₇.objs.size := Heap.lt_size (N₇ _ (.head _)).1
      have hlrgI : lrg < h₇.objs.size := Heap.lt_size (N₇ _ (.tail _ (.head _))).1
      refine for_range (σ := List Value × Nat × List Int × List Value × Nat × List (List Int)) rfl hr6 (by omega) (fun _ _ => [("order", .ref lo), ("rings", .ref lrg), ("seen", .ref lsn)])
        (fun _ c => (lsn, listOf c.1.toArray c.2.1) :: (lrg, listOf c.2.2.2.1.toArray c.2.2.2.2.1) :: stat)
        (fun i c => IntsAre c.1 c.2.2.1 ∧ BytesAre c.2.2.2.1 (c.2.2.2.2.2.map fun r => r.map fun i => i.toNat.toUInt8) ∧ c.2.2.1.Nodup ∧ (∀ x ∈ c.2.2.1, 0 ≤ x ∧ x < (col.length : Int)) ∧ c.2.2.2.2.2.length ≤ i ∧
          (c.2.2.1, c.2.2.2.2.2) = ((List.range i).map fun (k : Nat) => (k : Int)).foldl (ringStep (ordF col) col.length) ([], [])) ([], 0, [], [], 0, []) ?_ F₇ (by (repeat' (first | exact fmn | refine fmc (@rfl (Option Value) (some _)) ?_))) N₇ ⟨.nil, .nil, .nil, (fun _ hq => nomatch hq), Nat.le_refl _, rfl⟩ ?_ ?_
      · rintro i c _ p hp
        (revert p; refine fmc ?_ fun p hp => ?_)
        · exact Nat.ne_of_lt (Heap.lt_size (N₇ _ (.head _)).1)
        · (revert p; refine fmc ?_ fun p hp => ?_)
          · exact Nat.ne_of_lt (Heap.lt_size (N₇ _ (.tail _ (.head _))).1)
          · exact Nat.ne_of_lt (Heap.lt_size (N₇ p (.tail _ (.tail _ hp))).1)
      · rintro i
        refine elp5 fun seenV ns seen ringsV nr rings => ?_
        rintro ti u₈ h₈ tk₈ own hi
        refine ela6 fun hs1 hs2 hs3 hs4 hs5 hs6 => ?_
        rintro hown ⟨oI, hoI⟩ F₈ N₈
        dsimp only [kstB] at hs1 hs2 hs3 hs4 hs5 hs6 F₈ N₈ ⊢
        ((repeat' (first | walk_at "use" | walk_at "cutx" | (k_unfold; try dsimp only) | ((fail_if_success (with_reducible (refine stopAt ?_ ?_; rotate_left; first | exact s1 | exact s2 | exact s3 | exact s4 | exact s5 | exact s6 | exact s8 | exact s11 | exact s12 | exact s9 | exact s10 | exact s7))); (fail_if_success (with_reducible first | show LCg.CompSrc _ _ _ _ _ _ _ _ _ _ _ _ _ _ | show LCg.CompEnd _ _ _ _ _ _ _ _ _ _ _ _ _ _)); first | walk1 | (dsimp only; walk1)))); walk_at "kend")
        rename Fr _ _ _ _ => F₉
        rename News _ _ _ _ => N₉
        rename_i lg _ hl3 _ _ _ _ h₉ _ _
        have hown' : ∀ q ∈ own, q.1 = h₇.objs.size := hown
        let ord := ordF col
        let fin := follow ord (col.length + 1 - seen.length) seen (i : Int)
        let stat2 : List (Addr × Obj) := (lrg, listOf ringsV.toArray nr) :: stat ++ own
        refine while_st (σ := List Value × Nat × List Int × List Value × Nat × List Int × Int × Tok) (fun c => [("order", .ref lo), ("rings", .ref lrg), ("seen", .ref lsn), ("ring", .ref lg), ("place", .int c.2.2.2.2.2.2.1 c.2.2.2.2.2.2.2)])
          (fun c => (lg, listOf c.2.2.2.1.toArray c.2.2.2.2.1) :: (lsn, listOf c.1.toArray c.2.1) :: stat2)
          (fun c => IntsAre c.1 c.2.2.1 ∧ IntsAre c.2.2.2.1 c.2.2.2.2.2.1 ∧ c.2.2.1.Nodup ∧ (∀ x ∈ c.2.2.1, 0 ≤ x ∧ x < (col.length : Int)) ∧ (0 ≤ c.2.2.2.2.2.2.1 ∧ c.2.2.2.2.2.2.1 < (col.length : Int)) ∧ (∀ x ∈ c.2.2.2.2.2.1, 0 ≤ x ∧ x < 256) ∧ c.2.2.2.2.2.1.length ≤ c.2.2.1.length ∧
            (follow ord (col.length + 1 - c.2.2.1.length) c.2.2.1 c.2.2.2.2.2.2.1).1 = fin.1 ∧ c.2.2.2.2.2.1 ++ (follow ord (col.length + 1 - c.2.2.1.length) c.2.2.1 c.2.2.2.2.2.2.1).2 = fin.2) (fun c => col.length + 1 - c.2.2.1.length)
          (seenV, ns, seen, [], 0, [], (i : Int), ti) F₉ (by (repeat' (first | exact fmn | refine fmc (@rfl (Option Value) (some _)) ?_))) N₉ ⟨hs1, .nil, hs3, hs4, ⟨by show (0 : Int) ≤ (i : Int); omega, by show (i : Int) < _; omega⟩, (fun _ hq => nomatch hq), Nat.zero_le _, rfl, by simp [fin, ord]⟩ ?_
        refine elp7 fun sv nsv sn rv nrv rg pl tp => ?_
        rintro u₁₀ h₁₀ tk₁₀
        refine ela8 fun hw1 hw2 hw3 hw4 hw5 hw6 hw7 hw8 hw9 => ?_
        rintro F₁₀ N₁₀
        dsimp only [kstB] at hw1 hw2 hw3 hw4 hw5 hw6 hw7 hw8 hw9 F₁₀ N₁₀ ⊢
        have hsl := nodup_lenI hw3 hw4
        ((repeat' (first | walk_at "use" | walk_at "cutx" | (k_unfold; try dsimp only) | ((fail_if_success (with_reducible (refine stopAt ?_ ?_; rotate_left; first | exact s1 | exact s2 | exact s3 | exact s4 | exact s5 | exact s6 | exact s8 | exact s11 | exact s12 | exact s9 | exact s10 | exact s7))); (fail_if_success (with_reducible first | show LCg.CompSrc _ _ _ _ _ _ _ _ _ _ _ _ _ _ | show LCg.CompEnd _ _ _ _ _ _ _ _ _ _ _ _ _ _)); first | walk1 | (dsimp only; walk1)))); walk_at "kend")
        · rename decide (rg = []) = true => hrg
          rename (sn.any fun x => x == pl) = true => hany
          rename Fr _ _ _ _ => F₁₁
          rename News _ _ _ _ => N₁₁
          have hin : pl ∈ sn := by
            obtain ⟨x, hx, e⟩ := List.any_eq_true.mp hany
            exact (beq_iff_eq.mp e) ▸ hx
          rw [follow_in hin] at hw8 hw9
          have hrg' := of_decide_eq_true hrg
          subst hrg'
          refine FEnd.mk' (sv, nsv, sn, ringsV, nr, rings) F₁₁ (by (repeat' (first | exact fmn | refine fmc (@rfl (Option Value) (some _)) ?_))) N₁₁ ?_ ?_ ⟨hw1, hs2, hw3, hw4, by show rings.length ≤ i + 1; omega, ?_⟩
          · intro p hp
            (revert p; refine fmc ?_ fun p hp => ?_)
            · exact .tail _ (.tail _ (.head _))
            · exact .tail _ (.tail _ (.tail _ (List.mem_append_left _ hp)))
          · intro p hp; exact .tail _ (.tail _ (.tail _ (List.mem_append_right _ hp)))
          · show (sn, rings) = _
            rw [List.range_succ, List.map_append, List.foldl_append, ← hs6]
            simp only [List.map_cons, List.map_nil, List.foldl_cons, List.foldl_nil, ringStep]
            have e1 : fin.2 = [] := by simpa using hw9.symm
            have e2 : fin.1 = sn := hw8.symm
            show (sn, rings) = (fin.1, if fin.2 = [] then rings else rings ++ [fin.2])
            rw [e1, e2]; simp
        · rename decide (rg = []) = false => hrg
          rename (sn.any fun x => x == pl) = true => hany
          rename Fr _ _ _ _ => F₁₁
          rename News _ _ _ _ => N₁₁
          rename (_ < _ ∧ _ < _ ∧ AllLt _ _) => hl4
          have hin : pl ∈ sn := by
            obtain ⟨x, hx, e⟩ := List.any_eq_true.mp hany
            exact (beq_iff_eq.mp e) ▸ hx
          rw [follow_in hin] at hw8 hw9
          have hrg' := of_decide_eq_false hrg
          have hrl : ringsV.length ≤ i := by rw [hs2.length]; simpa using hs5
          have N₁₁' : News g L _ (_ :: _ :: _ :: (lrg, listOf ringsV.toArray nr) :: (stat ++ own)) := N₁₁
          refine append_K F₁₁ N₁₁' (Upd.tail ?_ (Upd.tail ?_ (Upd.tail ?_ (Upd.head ?_)))) ?_ (by rw [List.size_toArray, sizeLine_eq]; omega)
          · exact Nat.ne_of_gt (allLt_mem hl4.2.2 _ (.head _))
          · exact Nat.ne_of_gt (hl3 _ (.tail _ (.head _)))
          · exact Nat.ne_of_gt hl2.1
          · intro q hq
            rcases List.mem_append.mp hq with hq | hq
            · exact Nat.ne_of_lt (hstat_rg q hq)
            · rw [hown' q hq]; exact Nat.ne_of_gt hlrgI
          intro h₁₂ F₁₂ N₁₂
          rw [List.push_toArray] at N₁₂
          ((repeat' (first | walk_at "use" | walk_at "cutx" | (k_unfold; try dsimp only) | ((fail_if_success (with_reducible (refine stopAt ?_ ?_; rotate_left; first | exact s1 | exact s2 | exact s3 | exact s4 | exact s5 | exact s6 | exact s8 | exact s11 | exact s12 | exact s9 | exact s10 | exact s7))); (fail_if_success (with_reducible first | show LCg.CompSrc _ _ _ _ _ _ _ _ _ _ _ _ _ _ | show LCg.CompEnd _ _ _ _ _ _ _ _ _ _ _ _ _ _)); first | walk1 | (dsimp only; walk1)))); walk_at "kend")
          rename_i tkz _ _ _ _ _
          refine FEnd.mk' (sv, nsv, sn, ringsV ++ [.bytes (byteArr rg) tkz], nr + 1, rings ++ [rg]) F₁₂ (by (repeat' (first | exact fmn | refine fmc (@rfl (Option Value) (some _)) ?_))) N₁₂ ?_ ?_ ⟨hw1, ?_, hw3, hw4, by show (rings ++ [rg]).length ≤ i + 1; simp; omega, ?_⟩
          · intro p hp
            (revert p; refine fmc ?_ fun p hp => ?_)
            · exact .tail _ (.tail _ (.head _))
            · (revert p; refine fmc ?_ fun p hp => ?_)
              · exact .tail _ (.tail _ (.tail _ (.head _)))
              · exact .tail _ (.tail _ (.tail _ (.tail _ (List.mem_append_left _ hp))))
          · intro p hp; exact .tail _ (.tail _ (.tail _ (.tail _ (List.mem_append_right _ hp))))
          · show BytesAre (ringsV ++ [.bytes (byteArr rg) tkz]) ((rings ++ [rg]).map _)
            rw [List.map_append]
            exact hs2.snoc _ _
          · show (sn, rings ++ [rg]) = _
            rw [List.range_succ, List.map_append, List.foldl_append, ← hs6]
            simp only [List.map_cons, List.map_nil, List.foldl_cons, List.foldl_nil, ringStep]
            have e1 : fin.2 = rg := by simpa using hw9.symm
            have e2 : fin.1 = sn := hw8.symm
            show (sn, rings ++ [rg]) = (fin.1, if fin.2 = [] then rings else rings ++ [fin.2])
            rw [e1, e2, if_neg hrg']
        · rename (sn.any fun x => x == pl) = false => hany
          have hnin : pl ∉ sn := by
            intro hm
            exact List.any_eq_false.mp hany pl hm (beq_self_eq_true pl)
          obtain ⟨v, hvy⟩ : ∃ v, ys[pl.toNat]? = some v := ⟨ys[pl.toNat]'(by omega), by simp⟩
          have hvm := hys1 v (List.mem_of_getElem? hvy)
          obtain ⟨a, ta, ua, ev, hm⟩ := hd2 v hvm
          have hkv : (ordF col).getD pl.toNat default = key v := by
            rw [← hord, List.getD_eq_getElem?_getD, List.getElem?_map, hvy]; rfl
          obtain ⟨k, hk, hkk⟩ : ∃ k, k < col.length ∧ key v = (col.getD k 0, (k : Int)) := by
            have : key v ∈ pairsF col := by rw [← hd3]; exact List.mem_map_of_mem hvm
            obtain ⟨k, hk, e⟩ := List.mem_map.mp this
            exact ⟨k, List.mem_range.mp hk, e.symm⟩
          have hc0 : 0 ≤ (key v).1 ∧ (key v).1 < 256 := by
            rw [hkk]
            have : col.getD k 0 ∈ col := by rw [List.getD_eq_getElem?_getD, List.getElem?_eq_getElem hk]; exact List.getElem_mem hk
            exact hcol _ this
          have ne1 : lg ≠ lsn := Nat.ne_of_gt (hl3 _ (.head _))
          have ne2 : ∀ q ∈ stat2, q.1 ≠ lsn := by
            intro q hq
            rcases List.mem_append.mp hq with hq | hq
            · rcases List.mem_cons.mp hq with rfl | hq
              · exact Nat.ne_of_lt hl2.1
              · exact Nat.ne_of_lt (hstat_sn q hq)
            · rw [hown' q hq]; exact Nat.ne_of_gt hlsnI
          have ne3 : ∀ q ∈ stat2, q.1 ≠ lg := fun q hq => Nat.ne_of_lt (hl3 q (.tail _ hq))
          refine append_K (by k_asm) (by k_asm) (Upd.tail ne1 (Upd.head ne2)) ?_ (by rw [List.size_toArray, hw1.length, sizeLine_eq]; omega)
          intro h₁₁ F₁₁ N₁₁
          rw [List.push_toArray] at N₁₁
          ((repeat' (first | walk_at "use" | walk_at "cutx" | (k_unfold; try dsimp only) | ((fail_if_success (with_reducible (refine stopAt ?_ ?_; rotate_left; first | exact s1 | exact s2 | exact s3 | exact s4 | exact s5 | exact s6 | exact s8 | exact s11 | exact s12 | exact s9 | exact s10 | exact s7))); (fail_if_success (with_reducible first | show LCg.CompSrc _ _ _ _ _ _ _ _ _ _ _ _ _ _ | show LCg.CompEnd _ _ _ _ _ _ _ _ _ _ _ _ _ _)); first | walk1 | (dsimp only; walk1)))); walk_at "kend")
          have mlo : ∀ {x y : Addr × Obj}, (lo, LCg.lst ys) ∈ x :: y :: stat2 := .tail _ (.tail _ (List.mem_append_left _ (.tail _ (.head _))))
          have mtup : ∀ {x y : Addr × Obj}, (a, tupI (key v).1 ta (key v).2 ua) ∈ x :: y :: stat2 := .tail _ (.tail _ (List.mem_append_left _ (.tail _ (.tail _ (.tail _ (.tail _ (.tail _ hm)))))))
          refine item_ N₁₁ mlo hw5.1 hvy (by omega) ?_
          rw [ev]
          ((repeat' (first | walk_at "use" | walk_at "cutx" | (k_unfold; try dsimp only) | ((fail_if_success (with_reducible (refine stopAt ?_ ?_; rotate_left; first | exact s1 | exact s2 | exact s3 | exact s4 | exact s5 | exact s6 | exact s8 | exact s11 | exact s12 | exact s9 | exact s10 | exact s7))); (fail_if_success (with_reducible first | show LCg.CompSrc _ _ _ _ _ _ _ _ _ _ _ _ _ _ | show LCg.CompEnd _ _ _ _ _ _ _ _ _ _ _ _ _ _)); first | walk1 | (dsimp only; walk1)))); walk_at "kend")
          refine item_tupleT (j := 0) (⟨_, (N₁₁ _ mtup).1, rfl, _, rfl⟩) (by omega) (by omega) (by rfl) (by rfl) ?_
          ((repeat' (first | walk_at "use" | walk_at "cutx" | (k_unfold; try dsimp only) | ((fail_if_success (with_reducible (refine stopAt ?_ ?_; rotate_left; first | exact s1 | exact s2 | exact s3 | exact s4 | exact s5 | exact s6 | exact s8 | exact s11 | exact s12 | exact s9 | exact s10 | exact s7))); (fail_if_success (with_reducible first | show LCg.CompSrc _ _ _ _ _ _ _ _ _ _ _ _ _ _ | show LCg.CompEnd _ _ _ _ _ _ _ _ _ _ _ _ _ _)); first | walk1 | (dsimp only; walk1)))); walk_at "kend")
          refine append_K F₁₁ N₁₁ (Upd.head ?_) ?_ (by rw [List.size_toArray, hw2.length, sizeLine_eq]; omega)
          · intro q hq
            (revert q; refine fmc ?_ fun q hq => ?_)
            · exact Ne.symm ne1
            · exact ne3 q hq
          intro h₁₂ F₁₂ N₁₂
          rw [List.push_toArray] at N₁₂
          ((repeat' (first | walk_at "use" | walk_at "cutx" | (k_unfold; try dsimp only) | ((fail_if_success (with_reducible (refine stopAt ?_ ?_; rotate_left; first | exact s1 | exact s2 | exact s3 | exact s4 | exact s5 | exact s6 | exact s8 | exact s11 | exact s12 | exact s9 | exact s10 | exact s7))); (fail_if_success (with_reducible first | show LCg.CompSrc _ _ _ _ _ _ _ _ _ _ _ _ _ _ | show LCg.CompEnd _ _ _ _ _ _ _ _ _ _ _ _ _ _)); first | walk1 | (dsimp only; walk1)))); walk_at "kend")
          refine item_ N₁₂ mlo hw5.1 hvy (by omega) ?_
          rw [ev]
          ((repeat' (first | walk_at "use" | walk_at "cutx" | (k_unfold; try dsimp only) | ((fail_if_success (with_reducible (refine stopAt ?_ ?_; rotate_left; first | exact s1 | exact s2 | exact s3 | exact s4 | exact s5 | exact s6 | exact s8 | exact s11 | exact s12 | exact s9 | exact s10 | exact s7))); (fail_if_success (with_reducible first | show LCg.CompSrc _ _ _ _ _ _ _ _ _ _ _ _ _ _ | show LCg.CompEnd _ _ _ _ _ _ _ _ _ _ _ _ _ _)); first | walk1 | (dsimp only; walk1)))); walk_at "kend")
          refine item_tupleT (j := 1) (⟨_, (N₁₂ _ mtup).1, rfl, _, rfl⟩) (by omega) (by omega) (by rfl) (by rfl) ?_
          ((repeat' (first | walk_at "use" | walk_at "cutx" | (k_unfold; try dsimp only) | ((fail_if_success (with_reducible (refine stopAt ?_ ?_; rotate_left; first | exact s1 | exact s2 | exact s3 | exact s4 | exact s5 | exact s6 | exact s8 | exact s11 | exact s12 | exact s9 | exact s10 | exact s7))); (fail_if_success (with_reducible first | show LCg.CompSrc _ _ _ _ _ _ _ _ _ _ _ _ _ _ | show LCg.CompEnd _ _ _ _ _ _ _ _ _ _ _ _ _ _)); first | walk1 | (dsimp only; walk1)))); walk_at "kend")
          rename Fr _ _ _ _ => F₁₃
          rename News _ _ _ _ => N₁₃
          refine WEnd.mk' (sv ++ [.int pl tp], nsv + 1, sn ++ [pl], rv ++ [.int (key v).1 ta], nrv + 1, rg ++ [(key v).1], (key v).2, ua) F₁₃ (by (repeat' (first | exact fmn | refine fmc (@rfl (Option Value) (some _)) ?_))) N₁₃ ⟨hw1.append (.cons _ _ .nil), hw2.append (.cons _ _ .nil), ?_, ?_, ?_, ?_, ?_, ?_, ?_⟩ ?_
          · exact List.nodup_append.mpr ⟨hw3, by simp, by intro x hx y hy e; rw [List.mem_singleton.mp hy] at e; exact hnin (e ▸ hx)⟩
          · intro x hx
            rcases List.mem_append.mp hx with hx | hx
            · exact hw4 x hx
            · rw [List.mem_singleton.mp hx]; exact hw5
          · show 0 ≤ (key v).2 ∧ (key v).2 < _
            rw [hkk]; exact ⟨by show (0 : Int) ≤ (k : Int); omega, by show (k : Int) < _; omega⟩
          · intro x hx
            rcases List.mem_append.mp hx with hx | hx
            · exact hw6 x hx
            · rw [List.mem_singleton.mp hx]; exact hc0
          · simp; omega
          · show (follow ord (col.length + 1 - (sn ++ [pl]).length) (sn ++ [pl]) (key v).2).1 = fin.1
            rw [← hw8, show col.length + 1 - sn.length = (col.length - sn.length) + 1 from Nat.sub_add_comm (by assumption), follow_out hnin, hkv, show col.length + 1 - (sn ++ [pl]).length = col.length - sn.length by simp]
          · show (rg ++ [(key v).1]) ++ (follow ord (col.length + 1 - (sn ++ [pl]).length) (sn ++ [pl]) (key v).2).2 = fin.2
            rw [← hw9, show col.length + 1 - sn.length = (col.length - sn.length) + 1 from Nat.sub_add_comm (by assumption), follow_out hnin, hkv, show col.length + 1 - (sn ++ [pl]).length = col.length - sn.length by simp]
            simp
          · show col.length + 1 - (sn ++ [pl]).length < col.length + 1 - sn.length
            simp; omega
      · refine elp5 fun seenV ns seen ringsV nr rings => ?_
        rintro u₈ h₈ tk₈
        refine ela6 fun hs1 hs2 hs3 hs4 hs5 hs6 => ?_
        rintro F₈ N₈
        dsimp only [kstB] at hs1 hs2 hs3 hs4 hs5 hs6 F₈ N₈ ⊢
        ((repeat' (first | walk_at "use" | walk_at "cutx" | (k_unfold; try dsimp only) | ((fail_if_success (with_reducible (refine stopAt ?_ ?_; rotate_left; first | exact s1 | exact s2 | exact s3 | exact s4 | exact s5 | exact s6 | exact s8 | exact s11 | exact s12 | exact s9 | exact s10 | exact s7))); (fail_if_success (with_reducible first | show LCg.CompSrc _ _ _ _ _ _ _ _ _ _ _ _ _ _ | show LCg.CompEnd _ _ _ _ _ _ _ _ _ _ _ _ _ _)); first | walk1 | (dsimp only; walk1)))); walk_at "kend")
        have w0 := N₈ _ (.tail _ (.head _))
        refine h _ _ _ ringsV nr (fun b o hb e => F₈.keep b o (by rw [hg]; exact e)) ?_ w0.1 ?_
        · have := w0.2.2
          rw [hg] at this
          exact this
        · have e : rings = (ringsI (ordF col) col.length).2 := congrArg Prod.snd hs6
          rw [e] at hs2
          exact hs2
end Mine
end

section
open PySem PySem.W PySem.Calls PyProof.Rows PySem.MeetsSeq
set_option Elab.async false
set_option maxRecDepth 100000
set_option maxHeartbeats 4000000
set_option linter.unusedVariables false
namespace Mine
theorem fill64a : hd.heap_1 = hd.heap_1 ∧ Challenge.rw_oy0121_01 = Challenge.rw_oy0121_01 := by k_fill; exact ⟨rfl, rfl⟩
noncomputable def b64v (c : Int) : Int := if 65 ≤ c ∧ c ≤ 90 then c - 65 else if 97 ≤ c ∧ c ≤ 122 then c - 71 else if 48 ≤ c ∧ c ≤ 57 then c + 4 else if c = 43 then 62 else if c = 47 then 63 else 64
theorem b64v_call {w : World} {dp un : Nat} {fr gd} {s : Shared} {h₀ : Heap} {c : Int} {t : Tok} {R : Result → Shared → Prop} (H : At w h₀ s []) (hdp : dp < 900) (hu : un < 9000)
    (hc0 : 0 ≤ c) (hc1 : c < 256)
    (h : ∀ h' tk u v, v = b64v c → KeepBut [] s.heap h' → R (.ok (.ret (.int v u))) { s with heap := h', toks := tk }) :
    codeAny (model PP w) (AA dp un fr gd) (.call (.ref 105) ⟨[.int c t], []⟩) R s := by
  refine enter H (by k_is) (by k_is) (by show dp < 1000; omega) (BindsTo.of_eq rfl) (locs rfl) ?_ (by decide)
  intro p loose mg mb g L h₁ hg X T F N hlt
  dsimp only
  k_fold
  (repeat' (first | (k_unfold; try dsimp only) | ((fail_if_success (with_reducible (refine stopAt ?_ ?_; rotate_left; first | exact s1 | exact s2 | exact s3 | exact s4 | exact s5 | exact s6 | exact s8 | exact s11 | exact s12 | exact s9 | exact s10 | exact s7))); (fail_if_success (with_reducible first | show LCg.CompSrc _ _ _ _ _ _ _ _ _ _ _ _ _ _ | show LCg.CompEnd _ _ _ _ _ _ _ _ _ _ _ _ _ _)); first | walk1 | (dsimp only; walk1))))
  all_goals
    (dsimp only
     refine h _ _ _ _ ?_ (fun b₁ o hb' e => (by assumption : Fr _ _ _ _).keep b₁ o (hg ▸ hideAll_get _ e hb'))
     simp only [b64v]; (repeat' split) <;> omega)
theorem truth_call {w : World} {dp un : Nat} {fr gd} {s : Shared} {h₀ : Heap} {R : Result → Shared → Prop} (H : At w h₀ s []) (hdp : dp < 900) (hu : un < 9000)
    (h : ∀ h' tk, KeepBut [] s.heap h' → R (.ok (.ret (.bool false))) { s with heap := h', toks := tk }) :
    codeAny (model PP w) (AA dp un fr gd) (.call (.ref 98) ⟨[.bool false], []⟩) R s := by
  refine enter H (by k_is) (by k_is) (by show dp < 1000; omega) (BindsTo.of_eq rfl) (locs rfl) ?_ (by decide)
  intro p loose mg mb g L h₁ hg X T F N hlt
  dsimp only
  k_fold
  (repeat' (first | (k_unfold; try dsimp only) | ((fail_if_success (with_reducible (refine stopAt ?_ ?_; rotate_left; first | exact s1 | exact s2 | exact s3 | exact s4 | exact s5 | exact s6 | exact s8 | exact s11 | exact s12 | exact s9 | exact s10 | exact s7))); (fail_if_success (with_reducible first | show LCg.CompSrc _ _ _ _ _ _ _ _ _ _ _ _ _ _ | show LCg.CompEnd _ _ _ _ _ _ _ _ _ _ _ _ _ _)); first | walk1 | (dsimp only; walk1))))
  all_goals
    (dsimp only
     refine h _ _ (fun b₁ o hb' e => (by assumption : Fr _ _ _ _).keep b₁ o (hg ▸ hideAll_get _ e hb')))
theorem buffer_call {w : World} {dp un : Nat} {fr gd} {s : Shared} {h₀ : Heap} {b : Array UInt8} {t : Tok} {R : Result → Shared → Prop} (H : At w h₀ s []) (hdp : dp < 900) (hu : un < 9000)
    (h : ∀ h' tk, KeepBut [] s.heap h' → R (.ok (.ret (.bytes b t))) { s with heap := h', toks := tk }) :
    codeAny (model PP w) (AA dp un fr gd) (.call (.ref 91) ⟨[.bytes b t], []⟩) R s := by
  refine enter H (by k_is) (by k_is) (by show dp < 1000; omega) (BindsTo.of_eq rfl) (locs rfl) ?_ (by decide)
  intro p loose mg mb g L h₁ hg X T F N hlt
  dsimp only
  k_fold
  (repeat' (first | (k_unfold; try dsimp only) | ((fail_if_success (with_reducible (refine stopAt ?_ ?_; rotate_left; first | exact s1 | exact s2 | exact s3 | exact s4 | exact s5 | exact s6 | exact s8 | exact s11 | exact s12 | exact s9 | exact s10 | exact s7))); (fail_if_success (with_reducible first | show LCg.CompSrc _ _ _ _ _ _ _ _ _ _ _ _ _ _ | show LCg.CompEnd _ _ _ _ _ _ _ _ _ _ _ _ _ _)); first | walk1 | (dsimp only; walk1))))
  refine call_type_of (typeIs_bytes _ b t) (by rfl) ?_
  (repeat' (first | (k_unfold; try dsimp only) | ((fail_if_success (with_reducible (refine stopAt ?_ ?_; rotate_left; first | exact s1 | exact s2 | exact s3 | exact s4 | exact s5 | exact s6 | exact s8 | exact s11 | exact s12 | exact s9 | exact s10 | exact s7))); (fail_if_success (with_reducible first | show LCg.CompSrc _ _ _ _ _ _ _ _ _ _ _ _ _ _ | show LCg.CompEnd _ _ _ _ _ _ _ _ _ _ _ _ _ _)); first | walk1 | (dsimp only; walk1))))
  all_goals
    (dsimp only
     refine h _ _ (fun b₁ o hb' e => (by assumption : Fr _ _ _ _).keep b₁ o (hg ▸ hideAll_get _ e hb')))
theorem ascii_call {w : World} {dp un : Nat} {fr gd} {s : Shared} {h₀ : Heap} {b : Array UInt8} {t : Tok} {R : Result → Shared → Prop} (H : At w h₀ s []) (hdp : dp < 900) (hu : un < 9000)
    (h : ∀ h' tk, KeepBut [] s.heap h' → R (.ok (.ret (.bytes b t))) { s with heap := h', toks := tk }) :
    codeAny (model PP w) (AA dp un fr gd) (.call (.ref 84) ⟨[.bytes b t], []⟩) R s := by
  refine enter H (by k_is) (by k_is) (by show dp < 1000; omega) (BindsTo.of_eq rfl) (locs rfl) ?_ (by decide)
  intro p loose mg mb g L h₁ hg X T F N hlt
  dsimp only
  k_fold
  (repeat' (first | (k_unfold; try dsimp only) | ((fail_if_success (with_reducible (refine stopAt ?_ ?_; rotate_left; first | exact s1 | exact s2 | exact s3 | exact s4 | exact s5 | exact s6 | exact s8 | exact s11 | exact s12 | exact s9 | exact s10 | exact s7))); (fail_if_success (with_reducible first | show LCg.CompSrc _ _ _ _ _ _ _ _ _ _ _ _ _ _ | show LCg.CompEnd _ _ _ _ _ _ _ _ _ _ _ _ _ _)); first | walk1 | (dsimp only; walk1))))
  refine call_type_of (typeIs_bytes _ b t) (by rfl) ?_
  (repeat' (first | (k_unfold; try dsimp only) | ((fail_if_success (with_reducible (refine stopAt ?_ ?_; rotate_left; first | exact s1 | exact s2 | exact s3 | exact s4 | exact s5 | exact s6 | exact s8 | exact s11 | exact s12 | exact s9 | exact s10 | exact s7))); (fail_if_success (with_reducible first | show LCg.CompSrc _ _ _ _ _ _ _ _ _ _ _ _ _ _ | show LCg.CompEnd _ _ _ _ _ _ _ _ _ _ _ _ _ _)); first | walk1 | (dsimp only; walk1))))
  all_goals
    (dsimp only
     refine h _ _ (fun b₁ o hb' e => (by assumption : Fr _ _ _ _).keep b₁ o (hg ▸ hideAll_get _ e hb')))
theorem decdata_call {w : World} {dp un : Nat} {fr gd} {s : Shared} {h₀ : Heap} {b : Array UInt8} {t : Tok} {R : Result → Shared → Prop} (H : At w h₀ s []) (hdp : dp < 900) (hu : un < 9000)
    (h : ∀ h' tk, KeepBut [] s.heap h' → R (.ok (.ret (.bytes b t))) { s with heap := h', toks := tk }) :
    codeAny (model PP w) (AA dp un fr gd) (.call (.ref 64) ⟨[.bytes b t], []⟩) R s := by
  refine enter H (by k_is) (by k_is) (by show dp < 1000; omega) (BindsTo.of_eq rfl) (locs rfl) ?_ (by decide)
  intro p loose mg mb g L h₁ hg X T F N hlt
  dsimp only
  k_fold
  (repeat' (first | (k_unfold; try dsimp only) | ((fail_if_success (with_reducible (refine stopAt ?_ ?_; rotate_left; first | exact s1 | exact s2 | exact s3 | exact s4 | exact s5 | exact s6 | exact s8 | exact s11 | exact s12 | exact s9 | exact s10 | exact s7))); (fail_if_success (with_reducible first | show LCg.CompSrc _ _ _ _ _ _ _ _ _ _ _ _ _ _ | show LCg.CompEnd _ _ _ _ _ _ _ _ _ _ _ _ _ _)); first | walk1 | (dsimp only; walk1))))
  all_goals
    (dsimp only
     refine h _ _ (fun b₁ o hb' e => (by assumption : Fr _ _ _ _).keep b₁ o (hg ▸ hideAll_get _ e hb')))
end Mine
end

section
open PySem PySem.W PySem.Calls PyProof.Rows PySem.MeetsSeq
set_option Elab.async false
set_option maxRecDepth 100000
set_option maxHeartbeats 4000000
set_option linter.unusedVariables false
namespace Mine
theorem for_bytes {σ : Type} {w : World} {A : Around} {s : Shared} {env : Env} {g : Heap} {L : Addr} {x : Str} {px : Pos} {body : List Stmt} {b : List UInt8} {tb : Tok} {m₀ : Str → Option Value} {Q : Flow → Shared → Prop} (hh : A.handled = none)
    (ps : Nat → σ → List (Str × Value)) (Led : Nat → σ → List (Addr × Obj)) (P : Nat → σ → Prop) (c₀ : σ)
    (hled : ∀ i c, P i c → ∀ p ∈ Led i c, p.1 ≠ s.heap.objs.size)
    (F : Fr g L s.heap m₀) (hps : ∀ p ∈ ps 0 c₀, m₀ p.1 = some p.2) (N : News g L s.heap (Led 0 c₀)) (hP : P 0 c₀)
    (turn : ∀ i c z t u h tk own, b[i]? = some z → P i c → (∀ q ∈ own, q.1 = s.heap.objs.size) → (∃ o, (s.heap.objs.size, o) ∈ own) → Fr g L h (kstB u (ps i c)) → News g L h (Led i c ++ own) →
      wpAny (model PP w) A (assign (.Name x px) env (.int (z.toNat : Int) t)) (fun _ s₂ => wpAny (model PP w) A (execs body env) (FPost g L (ps (i + 1)) (Led (i + 1)) (P (i + 1)) own s Q) (fun _ _ => False) s₂) (fun _ _ => False) { s with heap := h, toks := tk })
    (done : ∀ c u h tk, P b.length c → Fr g L h (kstB u (ps b.length c)) → News g L h (Led b.length c) → Q .next { s with heap := h, toks := tk }) :
    wpAny (model PP w) A (pyIter (.bytes b.toArray tb)) (fun it s₂ => codeAny (model PP w) A (.forLoop (.Name x px) it body [] env) (fun r s' => match r with | .ok f => Q f s' | .error e => cameBackBy (model PP w) A env (fun _ _ => False) e s') s₂) (fun _ _ => False) s := by
  refine KBw.pyIter_bytes ?_
  have W := KBw.walks (prog := PP) (w := w) (A := A) hh s.heap.objs.size b.toArray tb
  rw [List.size_toArray] at W
  refine forLoop_st W ps Led P c₀ (.head _) (next_is_new F) (fun i h st => let ⟨o, e, _⟩ := st; ⟨o, e⟩) ?_ ?_ ?_ ?_ (F.push _) hps (N.grown fun _ _ e => Heap.get?_push_of_some _ e) hP ?_ ?_
  · exact fun hm => Nat.ne_of_lt F.ns.lt (List.mem_singleton.mp hm)
  · intro b hb; (revert b; refine fms ?_); exact next_is_new F
  · exact fun i c hc p hp hm => hled i c hc p hp (List.mem_singleton.mp hm)
  · exact ⟨_, Heap.get?_push_size _ rfl, rfl, rfl⟩
  · rintro i c v u h tk own hi ⟨z, t, hz, rfl⟩ hc hown hI F' N'
    exact turn i c z t u h tk own (by simpa using hz) hc (fun q hq => List.mem_singleton.mp (hown q hq)) hI F' N'
  · intro c u h tk hc F' N'
    exact done c u h tk hc F' N'
end Mine
end

section
open PySem PySem.W PySem.Calls PyProof.Rows PySem.MeetsSeq
set_option Elab.async false
set_option maxRecDepth 100000
set_option maxHeartbeats 4000000
set_option linter.unusedVariables false
namespace Mine
theorem fill64b : hd.heap_1 = hd.heap_1 ∧ Challenge.rw_oy0121_01 = Challenge.rw_oy0121_01 := by k_fill; exact ⟨rfl, rfl⟩
noncomputable def b64tab : List UInt8 := [65,66,67,68,69,70,71,72,73,74,75,76,77,78,79,80,81,82,83,84,85,86,87,88,89,90,97,98,99,100,101,102,103,104,105,106,107,108,109,110,111,112,113,114,115,116,117,118,119,120,121,122,48,49,50,51,52,53,54,55,56,57,43,47]
noncomputable def b64at (k : Int) : Int := ((b64tab.getD k.toNat 0).toNat : Int)
/-- the inner loop, with fuel: signs written, bits left -/
noncomputable def b2aIn : Nat → List Int → Int → Int → List Int × Int
  | 0, o, _, lb => (o, lb)
  | k + 1, o, lc, lb => if 6 ≤ lb then b2aIn k (o ++ [b64at (Builtin.bitAnd (lc.fdiv (2 ^ (lb - 6).toNat)) 63)]) lc (lb - 6) else (o, lb)
/-- one octet: (signs, leftchar, leftbits) -/
noncomputable def b2aStep (c : List Int × Int × Int) (z : Int) : List Int × Int × Int :=
  let lc := Builtin.bitAnd (Builtin.bitOr (c.2.1 * 2 ^ Int.toNat 8) z) 65535
  let r := b2aIn 2 c.1 lc (c.2.2 + 8)
  (r.1, lc, r.2)
noncomputable def b2aEnd (c : List Int × Int × Int) : List Int :=
  if c.2.2 = 2 then c.1 ++ [b64at (Builtin.bitAnd c.2.1 3 * 2 ^ Int.toNat 4), 61, 61] else if c.2.2 = 4 then c.1 ++ [b64at (Builtin.bitAnd c.2.1 15 * 2 ^ Int.toNat 2), 61] else c.1
noncomputable def b2aF (b : List UInt8) : List Int := b2aEnd ((b.map fun z => (z.toNat : Int)).foldl b2aStep ([], 0, 0))
theorem b64at_in (k : Int) : 0 ≤ b64at k ∧ b64at k < 256 := by
  unfold b64at; have := (b64tab.getD k.toNat 0).toNat_lt; omega
theorem b64at_mod {k : Int} (h0 : 0 ≤ k) (h1 : k < 64) : (((b64tab.getD ((k + (b64tab.length : Int)) % (b64tab.length : Int)).toNat 0).toNat : Nat) : Int) = b64at k := by
  rw [show (b64tab.length : Int) = 64 from rfl, Int.add_emod_right, Int.emod_eq_of_lt h0 h1]; rfl
theorem b2a_call {w : World} {dp un : Nat} {fr gd} {s : Shared} {h₀ : Heap} {b : List UInt8} {t : Tok} {R : Result → Shared → Prop} (H : At w h₀ s []) (hdp : dp < 890) (hu : un < 8900) (hlen : b.length < 1000)
    (h : ∀ h' tk u, KeepBut [] s.heap h' → R (.ok (.ret (.bytes (byteArr (b2aF b)) u))) { s with heap := h', toks := tk }) :
    codeAny (model PP w) (AA dp un fr gd) (.call (.ref 121) ⟨[.bytes b.toArray t], [("newline", .bool false)]⟩) R s := by
  refine enter H (by k_is) (by k_is) (by show dp < 1000; omega) (BindsTo.of_eq rfl) (locs rfl) ?_ (by decide)
  intro p loose mg mb g L h₁ hg X T F N hlt
  dsimp only
  k_fold
  (repeat' (first | (k_unfold; try dsimp only) | ((fail_if_success (with_reducible (refine stopAt ?_ ?_; rotate_left; first | exact s1 | exact s2 | exact s3 | exact s4 | exact s5 | exact s6 | exact s8 | exact s11 | exact s12 | exact s9 | exact s10 | exact s7))); (fail_if_success (with_reducible first | show LCg.CompSrc _ _ _ _ _ _ _ _ _ _ _ _ _ _ | show LCg.CompEnd _ _ _ _ _ _ _ _ _ _ _ _ _ _)); first | walk1 | (dsimp only; walk1))))
  refine wpAny_call (buffer_call (at_of X T F N (fun q hq => hq)) (by show dp + 1 < 900; omega) (by show un + _ < 9000; omega) ?_)
  intro h₂ tk₂ K₂
  have F₂ := fr_after F K₂ (by simp) (by simp)
  have N₂ := news_after N K₂ (by simp)
  dsimp only
  (repeat' (first | (k_unfold; try dsimp only) | ((fail_if_success (with_reducible (refine stopAt ?_ ?_; rotate_left; first | exact s1 | exact s2 | exact s3 | exact s4 | exact s5 | exact s6 | exact s8 | exact s11 | exact s12 | exact s9 | exact s10 | exact s7))); (fail_if_success (with_reducible first | show LCg.CompSrc _ _ _ _ _ _ _ _ _ _ _ _ _ _ | show LCg.CompEnd _ _ _ _ _ _ _ _ _ _ _ _ _ _)); first | walk1 | (dsimp only; walk1))))
  rename Fr _ _ _ _ => F₃
  rename News _ _ _ _ => N₃
  refine wpAny_call (truth_call (at_of X T F₃ N₃ (fun q hq => hq)) (by show dp + 1 < 900; omega) (by show un + _ < 9000; omega) ?_)
  intro h₄ tk₄ K₄
  have F₄ := fr_after F₃ K₄ (by simp) (by simp)
  have N₄ := news_after N₃ K₄ (by simp)
  dsimp only
  (repeat' (first | (k_unfold; try dsimp only) | ((fail_if_success (with_reducible (refine stopAt ?_ ?_; rotate_left; first | exact s1 | exact s2 | exact s3 | exact s4 | exact s5 | exact s6 | exact s8 | exact s11 | exact s12 | exact s9 | exact s10 | exact s7))); (fail_if_success (with_reducible first | show LCg.CompSrc _ _ _ _ _ _ _ _ _ _ _ _ _ _ | show LCg.CompEnd _ _ _ _ _ _ _ _ _ _ _ _ _ _)); first | walk1 | (dsimp only; walk1))))
  rename Fr _ _ _ _ => F₅
  rename News _ _ _ _ => N₅
  rename_i h6 tk6 lo h7 l1 h8 h9 h10
  have hlolt := Heap.lt_size (N₅ _ (.head _)).1
  refine wpAny_For ?_
  (repeat' (first | (k_unfold; try dsimp only) | ((fail_if_success (with_reducible (refine stopAt ?_ ?_; rotate_left; first | exact s1 | exact s2 | exact s3 | exact s4 | exact s5 | exact s6 | exact s8 | exact s11 | exact s12 | exact s9 | exact s10 | exact s7))); (fail_if_success (with_reducible first | show LCg.CompSrc _ _ _ _ _ _ _ _ _ _ _ _ _ _ | show LCg.CompEnd _ _ _ _ _ _ _ _ _ _ _ _ _ _)); first | walk1 | (dsimp only; walk1))))
  refine for_bytes (σ := List Value × Nat × List Int × Int × Int × Tok × Tok) rfl
    (fun _ c => [("bin_data", .bytes b.toArray t), ("newline", .bool false), ("out", .ref lo), ("leftbits", .int c.2.2.2.2.1 c.2.2.2.2.2.1), ("leftchar", .int c.2.2.2.1 c.2.2.2.2.2.2)])
    (fun _ c => [(lo, listOf c.1.toArray c.2.1)])
    (fun i c => IntsAre c.1 c.2.2.1 ∧ (0 ≤ c.2.2.2.1 ∧ c.2.2.2.1 < 65536) ∧ 0 ≤ c.2.2.2.2.1 ∧ c.2.2.2.2.1 < 6 ∧ c.2.2.1.length ≤ 2 * i ∧ (∀ x ∈ c.2.2.1, 0 ≤ x ∧ x < 256) ∧ (c.2.2.1, c.2.2.2.1, c.2.2.2.2.1) = ((b.take i).map fun z => (z.toNat : Int)).foldl b2aStep ([], 0, 0))
    ([], 0, [], 0, 0, tk, tk + 1 + 1) ?_ F₅ (by (repeat' (first | exact fmn | refine fmc (@rfl (Option Value) (some _)) ?_))) N₅ ?_ ?_ ?_
  · intro i c _ p hp
    (revert p; refine fms ?_); exact Nat.ne_of_lt hlolt
  · dsimp only; exact ⟨.nil, ⟨by decide, by decide⟩, by decide, by decide, by decide, (fun _ hq => nomatch hq), rfl⟩
  · rintro i
    refine elp9 fun ov no out lc lb tb tl => ?_
    rintro z tz u h₁₁ tk₁₁ own hz
    refine ela10 fun hv hlc hlc' hlb hlb' hol hoin hfold => ?_
    rintro hown ⟨oi, hoi⟩ F₁₁ N₁₁
    dsimp only at hv hlc hlc' hlb hlb' hol hoin hfold F₁₁ N₁₁ ⊢
    simp only [kstB] at F₁₁
    have hz1 : (0 : Int) ≤ z.toNat ∧ ((z.toNat : Nat) : Int) < 256 := by have := z.toNat_lt; omega
    (repeat' (first | (k_unfold; try dsimp only) | ((fail_if_success (with_reducible (refine stopAt ?_ ?_; rotate_left; first | exact s1 | exact s2 | exact s3 | exact s4 | exact s5 | exact s6 | exact s8 | exact s11 | exact s12 | exact s9 | exact s10 | exact s7))); (fail_if_success (with_reducible first | show LCg.CompSrc _ _ _ _ _ _ _ _ _ _ _ _ _ _ | show LCg.CompEnd _ _ _ _ _ _ _ _ _ _ _ _ _ _)); first | walk1 | (dsimp only; walk1))))
    rename Fr _ _ _ _ => F₁₂
    rename News _ _ _ _ => N₁₂
    generalize hLC : Builtin.bitAnd (Builtin.bitOr (lc * 2 ^ Int.toNat 8) (z.toNat : Int)) 65535 = LC at F₁₂
    have hLC1 : 0 ≤ LC ∧ LC < 65536 := by rw [← hLC, bitAnd_m16]; omega
    have hloI : ∀ q ∈ own, q.1 ≠ lo := fun q hq => by rw [hown q hq]; exact Nat.ne_of_gt hlolt
    have hib : i < b.length := (List.getElem?_eq_some_iff.mp hz).1
    refine while_st (σ := List Value × Nat × List Int × Int × Tok × Nat) (fun c => [("bin_data", .bytes b.toArray t), ("newline", .bool false), ("out", .ref lo), ("leftbits", .int c.2.2.2.1 c.2.2.2.2.1), ("leftchar", .int LC _)])
      (fun c => (lo, listOf c.1.toArray c.2.1) :: own)
      (fun c => IntsAre c.1 c.2.2.1 ∧ (0 ≤ c.2.2.2.1 ∧ c.2.2.2.1 < 6 * (c.2.2.2.2.2 : Int) + 6) ∧ c.2.2.1.length + c.2.2.2.2.2 ≤ 2 * i + 2 ∧ (∀ x ∈ c.2.2.1, 0 ≤ x ∧ x < 256) ∧ b2aIn c.2.2.2.2.2 c.2.2.1 LC c.2.2.2.1 = b2aIn 2 out LC (lb + 8))
      (fun c => c.2.2.2.2.2) (ov, no, out, lb + 8, _, 2) F₁₂ (by (repeat' (first | exact fmn | refine fmc (@rfl (Option Value) (some _)) ?_))) N₁₂ ⟨hv, ⟨by show 0 ≤ lb + 8; omega, by show lb + 8 < 6 * ((2 : Nat) : Int) + 6; omega⟩, by show out.length + 2 ≤ _; omega, hoin, rfl⟩ ?_
    refine elp5 fun ov₁ no₁ out₁ lb₁ tb₁ f₁ => ?_
    rintro u₁₃ h₁₃ tk₁₃
    refine ela11 fun hv₁ hb1 hb2 hln hin1 hfin => ?_
    rintro F₁₃ N₁₃
    dsimp only [kstB] at hv₁ hb1 hb2 hln hin1 hfin F₁₃ N₁₃ ⊢
    have hcp := hv₁
    (repeat' (first | (k_unfold; try dsimp only) | ((fail_if_success (with_reducible (refine stopAt ?_ ?_; rotate_left; first | exact s1 | exact s2 | exact s3 | exact s4 | exact s5 | exact s6 | exact s8 | exact s11 | exact s12 | exact s9 | exact s10 | exact s7))); (fail_if_success (with_reducible first | show LCg.CompSrc _ _ _ _ _ _ _ _ _ _ _ _ _ _ | show LCg.CompEnd _ _ _ _ _ _ _ _ _ _ _ _ _ _)); first | walk1 | (dsimp only; walk1))))
    · rename 6 ≤ lb₁ => h6
      have hk := bitAnd_m6 (LC.fdiv (2 ^ (lb₁ - 6).toNat))
      have hk0 : 0 ≤ Builtin.bitAnd (LC.fdiv (2 ^ (lb₁ - 6).toNat)) 63 ∧ Builtin.bitAnd (LC.fdiv (2 ^ (lb₁ - 6).toNat)) 63 < 64 := by rw [hk]; omega
      refine bitem (r := b64tab) (by decide) (by decide) (by omega) (by show _ < (64 : Int); omega) ?_
      intro t₁₄ k₁₄
      have e14 : (((b64tab.getD ((Builtin.bitAnd (LC.fdiv (2 ^ (lb₁ - 6).toNat)) 63 + (b64tab.length : Int)) % (b64tab.length : Int)).toNat 0).toNat : Nat) : Int) = b64at (Builtin.bitAnd (LC.fdiv (2 ^ (lb₁ - 6).toNat)) 63) := by
        rw [show (b64tab.length : Int) = 64 from rfl, Int.add_emod_right, Int.emod_eq_of_lt hk0.1 hk0.2]; rfl
      rw [e14]
      have hx : 0 ≤ b64at (Builtin.bitAnd (LC.fdiv (2 ^ (lb₁ - 6).toNat)) 63) ∧ b64at (Builtin.bitAnd (LC.fdiv (2 ^ (lb₁ - 6).toNat)) 63) < 256 := by
        unfold b64at; have := (b64tab.getD (Builtin.bitAnd (LC.fdiv (2 ^ (lb₁ - 6).toNat)) 63).toNat 0).toNat_lt; omega
      generalize hX : b64at (Builtin.bitAnd (LC.fdiv (2 ^ (lb₁ - 6).toNat)) 63) = X1 at hx ⊢
      (repeat' (first | (k_unfold; try dsimp only) | ((fail_if_success (with_reducible (refine stopAt ?_ ?_; rotate_left; first | exact s1 | exact s2 | exact s3 | exact s4 | exact s5 | exact s6 | exact s8 | exact s11 | exact s12 | exact s9 | exact s10 | exact s7))); (fail_if_success (with_reducible first | show LCg.CompSrc _ _ _ _ _ _ _ _ _ _ _ _ _ _ | show LCg.CompEnd _ _ _ _ _ _ _ _ _ _ _ _ _ _)); first | walk1 | (dsimp only; walk1))))
      refine append_K F₁₃ N₁₃ (Upd.head hloI) ?_ (by rw [List.size_toArray, hcp.length, sizeLine_eq]; omega)
      intro h₁₅ F₁₅ N₁₅
      rw [List.push_toArray] at N₁₅
      (repeat' (first | (k_unfold; try dsimp only) | ((fail_if_success (with_reducible (refine stopAt ?_ ?_; rotate_left; first | exact s1 | exact s2 | exact s3 | exact s4 | exact s5 | exact s6 | exact s8 | exact s11 | exact s12 | exact s9 | exact s10 | exact s7))); (fail_if_success (with_reducible first | show LCg.CompSrc _ _ _ _ _ _ _ _ _ _ _ _ _ _ | show LCg.CompEnd _ _ _ _ _ _ _ _ _ _ _ _ _ _)); first | walk1 | (dsimp only; walk1))))
      obtain ⟨f₂, rfl⟩ : ∃ f₂, f₁ = f₂ + 1 := ⟨f₁ - 1, by omega⟩
      rename Fr _ _ _ _ => F₁₆
      refine WEnd.mk' (ov₁ ++ [.int X1 t₁₄], no₁ + 1, out₁ ++ [X1], lb₁ - 6, _, f₂) F₁₆ (by (repeat' (first | exact fmn | refine fmc (@rfl (Option Value) (some _)) ?_))) (by k_asm) ⟨hcp.append (.cons _ _ .nil), ⟨by show 0 ≤ lb₁ - 6; omega, by show lb₁ - 6 < 6 * (f₂ : Int) + 6; omega⟩, ?_, ?_, ?_⟩ ?_
      · show (out₁ ++ [X1]).length + f₂ ≤ _; simp; omega
      · intro x hx'
        rcases List.mem_append.mp hx' with hm | hm
        · exact hin1 x hm
        · rw [List.mem_singleton.mp hm]; exact hx
      · show b2aIn f₂ (out₁ ++ [X1]) LC (lb₁ - 6) = _
        rw [← hfin, b2aIn, if_pos h6, hX]
      · show f₂ < f₂ + 1; omega
    · rename ¬ _ => h6
      rename Fr _ _ _ _ => F₁₆
      rename News _ _ _ _ => N₁₆
      have hend : b2aIn 2 out LC (lb + 8) = (out₁, lb₁) := by
        rw [← hfin]; cases f₁ with
        | zero => rfl
        | succ f => rw [b2aIn, if_neg h6]
      refine FEnd.mk' (ov₁, no₁, out₁, LC, lb₁, tb₁, _) F₁₆ (by (repeat' (first | exact fmn | refine fmc (@rfl (Option Value) (some _)) ?_))) N₁₆ ?_ ?_ ⟨hcp, hLC1, hb1, by show lb₁ < 6; omega, by show out₁.length ≤ 2 * (i + 1); omega, hin1, ?_⟩
      · intro p hp; (revert p; refine fms ?_); exact .head _
      · intro p hp; exact .tail _ hp
      · show (out₁, LC, lb₁) = _
        rw [List.take_add_one, hz, List.map_append, List.foldl_append, ← hfold]
        simp only [Option.toList, List.map_cons, List.map_nil, List.foldl_cons, List.foldl_nil, b2aStep, hLC, hend]
  · refine elp9 fun ov no out lc lb tb tl => ?_
    rintro u h₁₁ tk₁₁
    refine ela10 fun hv hlc hlc' hlb hlb' hol hoin hfold => ?_
    rintro F₁₁ N₁₁
    dsimp only [kstB] at hv hlc hlc' hlb hlb' hol hoin hfold F₁₁ N₁₁ ⊢
    have hcp := hv
    have hm2 : 0 ≤ Builtin.bitAnd lc 3 ∧ Builtin.bitAnd lc 3 < 4 := by rw [bitAnd_m2]; omega
    have hm4 : 0 ≤ Builtin.bitAnd lc 15 ∧ Builtin.bitAnd lc 15 < 16 := by rw [bitAnd_m4]; omega
    have hm2a := hm2.1; have hm2b := hm2.2; have hm4a := hm4.1; have hm4b := hm4.2
    rw [List.take_of_length_le (Nat.le_refl _)] at hfold
    (repeat' (first | (k_unfold; try dsimp only) | ((fail_if_success (with_reducible (refine stopAt ?_ ?_; rotate_left; first | exact s1 | exact s2 | exact s3 | exact s4 | exact s5 | exact s6 | exact s8 | exact s11 | exact s12 | exact s9 | exact s10 | exact s7))); (fail_if_success (with_reducible first | show LCg.CompSrc _ _ _ _ _ _ _ _ _ _ _ _ _ _ | show LCg.CompEnd _ _ _ _ _ _ _ _ _ _ _ _ _ _)); first | walk1 | (dsimp only; walk1))))
    · have hb : 0 ≤ Builtin.bitAnd lc 3 * 2 ^ Int.toNat 4 ∧ Builtin.bitAnd lc 3 * 2 ^ Int.toNat 4 < 64 := by rw [show (2 : Int) ^ Int.toNat 4 = 16 from rfl]; omega
      refine bitem (r := b64tab) (by decide) (by decide) (by omega) (by show _ < (64 : Int); omega) ?_
      intro t₁₄ k₁₄
      rw [b64at_mod hb.1 hb.2]
      have hx := b64at_in (Builtin.bitAnd lc 3 * 2 ^ Int.toNat 4)
      (repeat' (first | (k_unfold; try dsimp only) | ((fail_if_success (with_reducible (refine stopAt ?_ ?_; rotate_left; first | exact s1 | exact s2 | exact s3 | exact s4 | exact s5 | exact s6 | exact s8 | exact s11 | exact s12 | exact s9 | exact s10 | exact s7))); (fail_if_success (with_reducible first | show LCg.CompSrc _ _ _ _ _ _ _ _ _ _ _ _ _ _ | show LCg.CompEnd _ _ _ _ _ _ _ _ _ _ _ _ _ _)); first | walk1 | (dsimp only; walk1))))
      refine append_K F₁₁ N₁₁ (Upd.head (fun _ hq => nomatch hq)) ?_ (by rw [List.size_toArray, hcp.length, sizeLine_eq]; omega)
      intro h16_ F16_ N16_
      rw [List.push_toArray] at N16_
      (repeat' (first | (k_unfold; try dsimp only) | ((fail_if_success (with_reducible (refine stopAt ?_ ?_; rotate_left; first | exact s1 | exact s2 | exact s3 | exact s4 | exact s5 | exact s6 | exact s8 | exact s11 | exact s12 | exact s9 | exact s10 | exact s7))); (fail_if_success (with_reducible first | show LCg.CompSrc _ _ _ _ _ _ _ _ _ _ _ _ _ _ | show LCg.CompEnd _ _ _ _ _ _ _ _ _ _ _ _ _ _)); first | walk1 | (dsimp only; walk1))))
      refine append_K F16_ N16_ (Upd.head (fun _ hq => nomatch hq)) ?_ (by simp only [List.size_toArray, List.length_append, List.length_cons, List.length_nil, hcp.length]; rw [sizeLine_eq]; omega)
      intro h17_ F17_ N17_
      rw [List.push_toArray] at N17_
      (repeat' (first | (k_unfold; try dsimp only) | ((fail_if_success (with_reducible (refine stopAt ?_ ?_; rotate_left; first | exact s1 | exact s2 | exact s3 | exact s4 | exact s5 | exact s6 | exact s8 | exact s11 | exact s12 | exact s9 | exact s10 | exact s7))); (fail_if_success (with_reducible first | show LCg.CompSrc _ _ _ _ _ _ _ _ _ _ _ _ _ _ | show LCg.CompEnd _ _ _ _ _ _ _ _ _ _ _ _ _ _)); first | walk1 | (dsimp only; walk1))))
      refine append_K F17_ N17_ (Upd.head (fun _ hq => nomatch hq)) ?_ (by simp only [List.size_toArray, List.length_append, List.length_cons, List.length_nil, hcp.length]; rw [sizeLine_eq]; omega)
      intro h18_ F18_ N18_
      rw [List.push_toArray] at N18_
      (repeat' (first | (k_unfold; try dsimp only) | ((fail_if_success (with_reducible (refine stopAt ?_ ?_; rotate_left; first | exact s1 | exact s2 | exact s3 | exact s4 | exact s5 | exact s6 | exact s8 | exact s11 | exact s12 | exact s9 | exact s10 | exact s7))); (fail_if_success (with_reducible first | show LCg.CompSrc _ _ _ _ _ _ _ _ _ _ _ _ _ _ | show LCg.CompEnd _ _ _ _ _ _ _ _ _ _ _ _ _ _)); first | walk1 | (dsimp only; walk1))))
      have hin2 : ∀ x ∈ out ++ [b64at (Builtin.bitAnd lc 3 * 2 ^ Int.toNat 4)] ++ [61] ++ [61], 0 ≤ x ∧ x < 256 := by
        intro x hx'
        simp only [List.mem_append, List.mem_singleton, or_assoc] at hx'
        rcases hx' with hm | hm | hm | hm
        · exact hoin x hm
        · rw [hm]; exact hx
        all_goals (rw [hm]; decide)
      have e : b2aF b = out ++ [b64at (Builtin.bitAnd lc 3 * 2 ^ Int.toNat 4)] ++ [61] ++ [61] := by
        unfold b2aF b2aEnd; rw [← hfold]; dsimp only
        rw [if_pos (by omega)]; simp
      refine KBa.make_K F18_ N18_ rfl (⟨_, (N18_ _ (.head _)).1, rfl, _, rfl⟩) (((hcp.append (.cons _ _ .nil)).append (.cons _ _ .nil)).append (.cons _ _ .nil)) hin2 (by simp only [List.length_append, List.length_cons, List.length_nil]; omega) ?_
      intro h19_ t19_ k19_ F19_ N19_ _
      rw [← e]
      exact h _ _ _ (fun b₁ o hb' e => F19_.keep b₁ o (hg ▸ hideAll_get _ e hb'))
    · have hb : 0 ≤ Builtin.bitAnd lc 15 * 2 ^ Int.toNat 2 ∧ Builtin.bitAnd lc 15 * 2 ^ Int.toNat 2 < 64 := by rw [show (2 : Int) ^ Int.toNat 2 = 4 from rfl]; omega
      refine bitem (r := b64tab) (by decide) (by decide) (by omega) (by show _ < (64 : Int); omega) ?_
      intro t₁₄ k₁₄
      rw [b64at_mod hb.1 hb.2]
      have hx := b64at_in (Builtin.bitAnd lc 15 * 2 ^ Int.toNat 2)
      (repeat' (first | (k_unfold; try dsimp only) | ((fail_if_success (with_reducible (refine stopAt ?_ ?_; rotate_left; first | exact s1 | exact s2 | exact s3 | exact s4 | exact s5 | exact s6 | exact s8 | exact s11 | exact s12 | exact s9 | exact s10 | exact s7))); (fail_if_success (with_reducible first | show LCg.CompSrc _ _ _ _ _ _ _ _ _ _ _ _ _ _ | show LCg.CompEnd _ _ _ _ _ _ _ _ _ _ _ _ _ _)); first | walk1 | (dsimp only; walk1))))
      refine append_K F₁₁ N₁₁ (Upd.head (fun _ hq => nomatch hq)) ?_ (by rw [List.size_toArray, hcp.length, sizeLine_eq]; omega)
      intro h16_ F16_ N16_
      rw [List.push_toArray] at N16_
      (repeat' (first | (k_unfold; try dsimp only) | ((fail_if_success (with_reducible (refine stopAt ?_ ?_; rotate_left; first | exact s1 | exact s2 | exact s3 | exact s4 | exact s5 | exact s6 | exact s8 | exact s11 | exact s12 | exact s9 | exact s10 | exact s7))); (fail_if_success (with_reducible first | show LCg.CompSrc _ _ _ _ _ _ _ _ _ _ _ _ _ _ | show LCg.CompEnd _ _ _ _ _ _ _ _ _ _ _ _ _ _)); first | walk1 | (dsimp only; walk1))))
      refine append_K F16_ N16_ (Upd.head (fun _ hq => nomatch hq)) ?_ (by simp only [List.size_toArray, List.length_append, List.length_cons, List.length_nil, hcp.length]; rw [sizeLine_eq]; omega)
      intro h17_ F17_ N17_
      rw [List.push_toArray] at N17_
      (repeat' (first | (k_unfold; try dsimp only) | ((fail_if_success (with_reducible (refine stopAt ?_ ?_; rotate_left; first | exact s1 | exact s2 | exact s3 | exact s4 | exact s5 | exact s6 | exact s8 | exact s11 | exact s12 | exact s9 | exact s10 | exact s7))); (fail_if_success (with_reducible first | show LCg.CompSrc _ _ _ _ _ _ _ _ _ _ _ _ _ _ | show LCg.CompEnd _ _ _ _ _ _ _ _ _ _ _ _ _ _)); first | walk1 | (dsimp only; walk1))))
      have hin2 : ∀ x ∈ out ++ [b64at (Builtin.bitAnd lc 15 * 2 ^ Int.toNat 2)] ++ [61], 0 ≤ x ∧ x < 256 := by
        intro x hx'
        simp only [List.mem_append, List.mem_singleton, or_assoc] at hx'
        rcases hx' with hm | hm | hm
        · exact hoin x hm
        · rw [hm]; exact hx
        all_goals (rw [hm]; decide)
      have e : b2aF b = out ++ [b64at (Builtin.bitAnd lc 15 * 2 ^ Int.toNat 2)] ++ [61] := by
        unfold b2aF b2aEnd; rw [← hfold]; dsimp only
        rw [if_neg (by omega), if_pos (by omega)]; simp
      refine KBa.make_K F17_ N17_ rfl (⟨_, (N17_ _ (.head _)).1, rfl, _, rfl⟩) ((hcp.append (.cons _ _ .nil)).append (.cons _ _ .nil)) hin2 (by simp only [List.length_append, List.length_cons, List.length_nil]; omega) ?_
      intro h19_ t19_ k19_ F19_ N19_ _
      rw [← e]
      exact h _ _ _ (fun b₁ o hb' e => F19_.keep b₁ o (hg ▸ hideAll_get _ e hb'))
    · rename Fr _ _ _ _ => F₁₂
      have e : b2aF b = out := by
        unfold b2aF b2aEnd; rw [← hfold]; dsimp only
        rw [if_neg (by omega), if_neg (by omega)]
      rw [← e]
      exact h _ _ _ (fun b₁ o hb' e => F₁₂.keep b₁ o (hg ▸ hideAll_get _ e hb'))
end Mine
end

section
open PySem PySem.W PySem.Calls PyProof.Rows PySem.MeetsSeq
set_option Elab.async false
set_option maxRecDepth 100000
set_option maxHeartbeats 4000000
set_option linter.unusedVariables false
namespace Mine
theorem fill64c : hd.heap_1 = hd.heap_1 ∧ Challenge.rw_oy0121_01 = Challenge.rw_oy0121_01 := by k_fill; exact ⟨rfl, rfl⟩
/-- one sign: (octets, quad_pos, leftchar, pads) -/
noncomputable def a2bStep (c : List Int × Int × Int × Int) (z : Int) : List Int × Int × Int × Int :=
  if z = 61 then (c.1, c.2.1, c.2.2.1, c.2.2.2 + 1)
  else if 64 ≤ b64v z then c
  else if c.2.1 = 0 then (c.1, 1, b64v z, 0)
  else if c.2.1 = 1 then (c.1 ++ [Builtin.bitOr (c.2.2.1 * 2 ^ Int.toNat 2) ((b64v z).fdiv (2 ^ Int.toNat 4))], 2, Builtin.bitAnd (b64v z) 15, 0)
  else if c.2.1 = 2 then (c.1 ++ [Builtin.bitOr (c.2.2.1 * 2 ^ Int.toNat 4) ((b64v z).fdiv (2 ^ Int.toNat 2))], 3, Builtin.bitAnd (b64v z) 3, 0)
  else (c.1 ++ [Builtin.bitOr (c.2.2.1 * 2 ^ Int.toNat 6) (b64v z)], 0, 0, 0)
noncomputable def a2bS (b : List UInt8) : List Int × Int × Int × Int := (b.map fun z => (z.toNat : Int)).foldl a2bStep ([], 0, 0, 0)
theorem bitNot_bitNot (x : Int) : Builtin.bitNot (Builtin.bitNot x) = x := by unfold Builtin.bitNot; omega
theorem bitOr_nn {x y : Int} (hx : 0 ≤ x) (hy : 0 ≤ y) : Builtin.bitOr x y = ((x.toNat ||| y.toNat : Nat) : Int) := by
  have h1 : decide (0 ≤ Builtin.bitNot x) = false := by rw [decide_eq_false_iff_not]; unfold Builtin.bitNot; omega
  have h2 : decide (0 ≤ Builtin.bitNot y) = false := by rw [decide_eq_false_iff_not]; unfold Builtin.bitNot; omega
  unfold Builtin.bitOr Builtin.bitAnd
  rw [h1, h2]
  dsimp only
  rw [bitNot_bitNot, bitNot_bitNot, bitNot_bitNot]
theorem bitOr_byte {x y : Int} (hx : 0 ≤ x) (hy : 0 ≤ y) (hx' : x < 256) (hy' : y < 256) : 0 ≤ Builtin.bitOr x y ∧ Builtin.bitOr x y < 256 := by
  rw [bitOr_nn hx hy]
  have : x.toNat ||| y.toNat < 2 ^ 8 := Nat.or_lt_two_pow (by omega) (by omega)
  omega
theorem a2b_call {w : World} {dp un : Nat} {fr gd} {s : Shared} {h₀ : Heap} {b : List UInt8} {t : Tok} {R : Result → Shared → Prop} (H : At w h₀ s []) (hdp : dp < 890) (hu : un < 8900) (hlen : b.length < 1000)
    (hok : (a2bS b).2.1 ≠ 1 ∧ ((a2bS b).2.1 = 0 ∨ 4 ≤ (a2bS b).2.1 + (a2bS b).2.2.2))
    (h : ∀ h' tk u, KeepBut [] s.heap h' → R (.ok (.ret (.bytes (byteArr (a2bS b).1) u))) { s with heap := h', toks := tk }) :
    codeAny (model PP w) (AA dp un fr gd) (.call (.ref 113) ⟨[.bytes b.toArray t], [("strict_mode", .bool false)]⟩) R s := by
  refine enter H (by k_is) (by k_is) (by show dp < 1000; omega) (BindsTo.of_eq rfl) (locs rfl) ?_ (by decide)
  intro p loose mg mb g L h₁ hg X T F N hlt
  dsimp only
  k_fold
  (repeat' (first | (k_unfold; try dsimp only) | ((fail_if_success (with_reducible (refine stopAt ?_ ?_; rotate_left; first | exact s1 | exact s2 | exact s3 | exact s4 | exact s5 | exact s6 | exact s8 | exact s11 | exact s12 | exact s9 | exact s10 | exact s7))); (fail_if_success (with_reducible first | show LCg.CompSrc _ _ _ _ _ _ _ _ _ _ _ _ _ _ | show LCg.CompEnd _ _ _ _ _ _ _ _ _ _ _ _ _ _)); first | walk1 | (dsimp only; walk1))))
  refine wpAny_call (ascii_call (at_of X T F N (fun q hq => hq)) (by show dp + 1 < 900; omega) (by show un + _ < 9000; omega) ?_)
  intro h₂ tk₂ K₂
  have F₂ := fr_after F K₂ (by simp) (by simp)
  have N₂ := news_after N K₂ (by simp)
  dsimp only
  (repeat' (first | (k_unfold; try dsimp only) | ((fail_if_success (with_reducible (refine stopAt ?_ ?_; rotate_left; first | exact s1 | exact s2 | exact s3 | exact s4 | exact s5 | exact s6 | exact s8 | exact s11 | exact s12 | exact s9 | exact s10 | exact s7))); (fail_if_success (with_reducible first | show LCg.CompSrc _ _ _ _ _ _ _ _ _ _ _ _ _ _ | show LCg.CompEnd _ _ _ _ _ _ _ _ _ _ _ _ _ _)); first | walk1 | (dsimp only; walk1))))
  rename Fr _ _ _ _ => F₃
  rename News _ _ _ _ => N₃
  refine wpAny_call (truth_call (at_of X T F₃ N₃ (fun q hq => hq)) (by show dp + 1 < 900; omega) (by show un + _ < 9000; omega) ?_)
  intro h₄ tk₄ K₄
  have F₄ := fr_after F₃ K₄ (by simp) (by simp)
  have N₄ := news_after N₃ K₄ (by simp)
  dsimp only
  (repeat' (first | (k_unfold; try dsimp only) | ((fail_if_success (with_reducible (refine stopAt ?_ ?_; rotate_left; first | exact s1 | exact s2 | exact s3 | exact s4 | exact s5 | exact s6 | exact s8 | exact s11 | exact s12 | exact s9 | exact s10 | exact s7))); (fail_if_success (with_reducible first | show LCg.CompSrc _ _ _ _ _ _ _ _ _ _ _ _ _ _ | show LCg.CompEnd _ _ _ _ _ _ _ _ _ _ _ _ _ _)); first | walk1 | (dsimp only; walk1))))
  rename Fr _ _ _ _ => F₅
  rename News _ _ _ _ => N₅
  rename_i h6 tk6 lo h7 l1 h8 h9 h10 h11 h12
  have hlolt := Heap.lt_size (N₅ _ (.head _)).1
  refine wpAny_For ?_
  (repeat' (first | (k_unfold; try dsimp only) | ((fail_if_success (with_reducible (refine stopAt ?_ ?_; rotate_left; first | exact s1 | exact s2 | exact s3 | exact s4 | exact s5 | exact s6 | exact s8 | exact s11 | exact s12 | exact s9 | exact s10 | exact s7))); (fail_if_success (with_reducible first | show LCg.CompSrc _ _ _ _ _ _ _ _ _ _ _ _ _ _ | show LCg.CompEnd _ _ _ _ _ _ _ _ _ _ _ _ _ _)); first | walk1 | (dsimp only; walk1))))
  refine for_bytes (σ := List Value × Nat × (List Int × Int × Int × Int) × Tok × Tok × Tok × Tok) rfl
    (fun i c => [("ascii_data", .bytes b.toArray t), ("strict_mode", .bool false), ("out", .ref lo), ("quad_pos", .int c.2.2.1.2.1 c.2.2.2.1), ("leftchar", .int c.2.2.1.2.2.1 c.2.2.2.2.1), ("pads", .int c.2.2.1.2.2.2 c.2.2.2.2.2.1), ("i", .int (i : Int) c.2.2.2.2.2.2)])
    (fun _ c => [(lo, listOf c.1.toArray c.2.1)])
    (fun i c => IntsAre c.1 c.2.2.1.1 ∧ (0 ≤ c.2.2.1.2.1 ∧ c.2.2.1.2.1 < 4) ∧ (0 ≤ c.2.2.1.2.2.1 ∧ c.2.2.1.2.2.1 < 64 ∧ (c.2.2.1.2.1 = 2 → c.2.2.1.2.2.1 < 16) ∧ (c.2.2.1.2.1 = 3 → c.2.2.1.2.2.1 < 4)) ∧ (0 ≤ c.2.2.1.2.2.2 ∧ c.2.2.1.2.2.2 ≤ i) ∧ c.2.2.1.1.length ≤ i ∧ (∀ x ∈ c.2.2.1.1, 0 ≤ x ∧ x < 256) ∧
      c.2.2.1 = ((b.take i).map fun z => (z.toNat : Int)).foldl a2bStep ([], 0, 0, 0))
    ([], 0, ([], 0, 0, 0), tk, tk + 1 + 1, tk + 1 + 1 + 1 + 1, tk + 1 + 1 + 1 + 1 + 1 + 1) ?_ F₅ (by (repeat' (first | exact fmn | refine fmc (@rfl (Option Value) (some _)) ?_))) N₅ ?_ ?_ ?_
  · intro i c _ p hp
    (revert p; refine fms ?_); exact Nat.ne_of_lt hlolt
  · dsimp only; exact ⟨.nil, ⟨by decide, by decide⟩, ⟨by decide, by decide, by decide, by decide⟩, ⟨by decide, by decide⟩, by decide, (fun _ hq => nomatch hq), rfl⟩
  · rintro i
    refine elp12 fun ov no out q lc pads t1 t2 t3 t4 => ?_
    rintro z tz u h₁₁ tk₁₁ own hz
    refine ela13 fun hv hq0 hq1 hlc hlc' hlc2 hlc3 hp0 hp1 hol hoin hfold => ?_
    rintro hown ⟨oi, hoi⟩ F₁₁ N₁₁
    dsimp only at hv hq0 hq1 hlc hlc' hlc2 hlc3 hp0 hp1 hol hoin hfold F₁₁ N₁₁ ⊢
    simp only [kstB] at F₁₁
    have hz1 : (0 : Int) ≤ z.toNat ∧ ((z.toNat : Nat) : Int) < 256 := by have := z.toNat_lt; omega
    have hloI : ∀ q ∈ own, q.1 ≠ lo := fun q hq => by rw [hown q hq]; exact Nat.ne_of_gt hlolt
    have hib : i < b.length := (List.getElem?_eq_some_iff.mp hz).1
    have hcp := hv
    have htake : ((b.take (i + 1)).map fun z => (z.toNat : Int)).foldl a2bStep ([], 0, 0, 0) = a2bStep (out, q, lc, pads) (z.toNat : Int) := by
      rw [List.take_add_one, hz, List.map_append, List.foldl_append, ← hfold]; rfl
    (repeat' (first | (k_unfold; try dsimp only) | ((fail_if_success (with_reducible (refine stopAt ?_ ?_; rotate_left; first | exact s1 | exact s2 | exact s3 | exact s4 | exact s5 | exact s6 | exact s8 | exact s11 | exact s12 | exact s9 | exact s10 | exact s7))); (fail_if_success (with_reducible first | show LCg.CompSrc _ _ _ _ _ _ _ _ _ _ _ _ _ _ | show LCg.CompEnd _ _ _ _ _ _ _ _ _ _ _ _ _ _)); first | walk1 | (dsimp only; walk1))))
    iterate 3
      · rename _ = (61 : Int) => h61
        rename Fr _ _ _ _ => F₁₂
        rename News _ _ _ _ => N₁₂
        dsimp only
        refine FEnd.mk' (ov, no, (out, q, lc, pads + 1), t1, t2, _, _) F₁₂ (by (repeat' (first | exact fmn | refine fmc (@rfl (Option Value) (some _)) ?_))) N₁₂ ?_ ?_ ⟨hcp, ⟨hq0, hq1⟩, ⟨hlc, hlc', hlc2, hlc3⟩, ⟨by show 0 ≤ pads + 1; omega, by show pads + 1 ≤ ((i + 1 : Nat) : Int); omega⟩, by show out.length ≤ i + 1; omega, hoin, ?_⟩
        · intro p hp; (revert p; refine fms ?_); exact .head _
        · intro p hp; exact .tail _ hp
        · show (out, q, lc, pads + 1) = _
          rw [htake]; unfold a2bStep; rw [if_pos h61]
    rename ¬ _ => h61
    rename Fr _ _ _ _ => F₁₂
    rename News _ _ _ _ => N₁₂
    refine wpAny_call (b64v_call (at_of X T F₁₂ N₁₂ (fun q hq => nomatch hq)) (by show dp + 1 < 900; omega) (by show un + _ < 9000; omega) hz1.1 hz1.2 ?_)
    intro h₁₃ tk₁₃ u₁₃ v hve K₁₃
    have F₁₃ := fr_after F₁₂ K₁₃ (by simp) (by simp)
    have N₁₃ := news_after N₁₂ K₁₃ (by simp)
    have hvb : 0 ≤ v ∧ v ≤ 64 := by rw [hve]; unfold b64v; (repeat' split) <;> omega
    have hvb0 := hvb.1; have hvb1 := hvb.2
    have hm2 : 0 ≤ Builtin.bitAnd v 3 ∧ Builtin.bitAnd v 3 < 4 := by rw [bitAnd_m2]; omega
    have hm4 : 0 ≤ Builtin.bitAnd v 15 ∧ Builtin.bitAnd v 15 < 16 := by rw [bitAnd_m4]; omega
    dsimp only
    (repeat' (first | (k_unfold; try dsimp only) | ((fail_if_success (with_reducible (refine stopAt ?_ ?_; rotate_left; first | exact s1 | exact s2 | exact s3 | exact s4 | exact s5 | exact s6 | exact s8 | exact s11 | exact s12 | exact s9 | exact s10 | exact s7))); (fail_if_success (with_reducible first | show LCg.CompSrc _ _ _ _ _ _ _ _ _ _ _ _ _ _ | show LCg.CompEnd _ _ _ _ _ _ _ _ _ _ _ _ _ _)); first | walk1 | (dsimp only; walk1))))
    · rename Fr _ _ _ _ => F₂₀
      rename News _ _ _ _ => N₂₀
      dsimp only
      refine FEnd.mk' (ov, no, (out, q, lc, pads), t1, t2, t3, _) F₂₀ (by (repeat' (first | exact fmn | refine fmc (@rfl (Option Value) (some _)) ?_))) N₂₀ ?_ ?_ ⟨hcp, ⟨hq0, hq1⟩, ⟨hlc, hlc', hlc2, hlc3⟩, ⟨hp0, by show pads ≤ ((i + 1 : Nat) : Int); omega⟩, by show out.length ≤ i + 1; omega, hoin, ?_⟩
      · intro p hp; (revert p; refine fms ?_); exact .head _
      · intro p hp; exact .tail _ hp
      · show (out, q, lc, pads) = _
        rw [htake]; unfold a2bStep; rw [if_neg h61, ← hve, if_pos (by omega)]
    iterate 2
      · rename Fr _ _ _ _ => F₂₀
        rename News _ _ _ _ => N₂₀
        refine FEnd.mk' (ov, no, (out, 1, v, 0), _, _, _, _) F₂₀ (by (repeat' (first | exact fmn | refine fmc (@rfl (Option Value) (some _)) ?_))) N₂₀ ?_ ?_ ⟨hcp, ⟨by show (0 : Int) ≤ 1; omega, by show 1 < (4 : Int); omega⟩, ⟨by show (0 : Int) ≤ v; omega, by show v < (64 : Int); omega, by show (1 : Int) = 2 → v < (16 : Int); omega, by show (1 : Int) = 3 → v < (4 : Int); omega⟩, ⟨by show (0 : Int) ≤ 0; omega, by show 0 ≤ ((i + 1 : Nat) : Int); omega⟩, by show (out : List Int).length ≤ i + 1; omega, ?_, ?_⟩
        · intro p hp; (revert p; refine fms ?_); exact .head _
        · intro p hp; exact .tail _ hp
        · exact hoin
        · show (out, 1, v, 0) = _
          rw [htake]; unfold a2bStep; rw [if_neg h61, ← hve]; dsimp only; rw [if_neg (by omega), if_pos (by omega)]
      · have hd : 0 ≤ (v.fdiv (2 ^ Int.toNat 4)) ∧ (v.fdiv (2 ^ Int.toNat 4)) < 256 := by rw [Int.fdiv_eq_ediv_of_nonneg _ (by decide)]; simp only [show Int.toNat 4 = 4 from rfl, show Int.toNat 2 = 2 from rfl]; omega
        have hxb := bitOr_byte (x := lc * 2 ^ Int.toNat 2) (y := (v.fdiv (2 ^ Int.toNat 4))) (by rw [show (2 : Int) ^ Int.toNat 2 = 4 from rfl]; omega) hd.1 (by rw [show (2 : Int) ^ Int.toNat 2 = 4 from rfl]; omega) hd.2
        refine append_K (by assumption) (by assumption) (Upd.head hloI) ?_ (by rw [List.size_toArray, hcp.length, sizeLine_eq]; omega)
        intro h₁₈ F₁₈ N₁₈
        obtain ⟨T₁₈, N₁₉⟩ : ∃ T, News g L h₁₈ ((lo, listOf (ov ++ [Value.int (Builtin.bitOr (lc * 2 ^ Int.toNat 2) (v.fdiv (2 ^ Int.toNat 4))) T]).toArray (no + 1)) :: own) := ⟨_, by rw [List.push_toArray] at N₁₈; exact N₁₈⟩
        clear N₁₈
        (repeat' (first | (k_unfold; try dsimp only) | ((fail_if_success (with_reducible (refine stopAt ?_ ?_; rotate_left; first | exact s1 | exact s2 | exact s3 | exact s4 | exact s5 | exact s6 | exact s8 | exact s11 | exact s12 | exact s9 | exact s10 | exact s7))); (fail_if_success (with_reducible first | show LCg.CompSrc _ _ _ _ _ _ _ _ _ _ _ _ _ _ | show LCg.CompEnd _ _ _ _ _ _ _ _ _ _ _ _ _ _)); first | walk1 | (dsimp only; walk1))))
        rename Fr _ _ _ _ => F₂₀
        rename News _ _ _ _ => N₂₀
        refine FEnd.mk' (ov ++ [.int (Builtin.bitOr (lc * 2 ^ Int.toNat 2) (v.fdiv (2 ^ Int.toNat 4))) T₁₈], no + 1, (out ++ [Builtin.bitOr (lc * 2 ^ Int.toNat 2) (v.fdiv (2 ^ Int.toNat 4))], 2, Builtin.bitAnd v 15, 0), _, _, _, _) F₂₀ (by (repeat' (first | exact fmn | refine fmc (@rfl (Option Value) (some _)) ?_))) N₂₀ ?_ ?_ ⟨hcp.append (.cons _ _ .nil), ⟨by show (0 : Int) ≤ 2; omega, by show 2 < (4 : Int); omega⟩, ⟨by show (0 : Int) ≤ Builtin.bitAnd v 15; omega, by show Builtin.bitAnd v 15 < (64 : Int); omega, by show (2 : Int) = 2 → Builtin.bitAnd v 15 < (16 : Int); omega, by show (2 : Int) = 3 → Builtin.bitAnd v 15 < (4 : Int); omega⟩, ⟨by show (0 : Int) ≤ 0; omega, by show 0 ≤ ((i + 1 : Nat) : Int); omega⟩, by show (out ++ [Builtin.bitOr (lc * 2 ^ Int.toNat 2) (v.fdiv (2 ^ Int.toNat 4))] : List Int).length ≤ i + 1; simp; omega, ?_, ?_⟩
        · intro p hp; (revert p; refine fms ?_); exact .head _
        · intro p hp; exact .tail _ hp
        · intro x hx'
          rcases List.mem_append.mp hx' with hm | hm
          · exact hoin x hm
          · rw [List.mem_singleton.mp hm]; exact hxb
        · show (out ++ [Builtin.bitOr (lc * 2 ^ Int.toNat 2) (v.fdiv (2 ^ Int.toNat 4))], 2, Builtin.bitAnd v 15, 0) = _
          rw [htake]; unfold a2bStep; rw [if_neg h61, ← hve]; dsimp only; rw [if_neg (by omega), if_neg (by omega), if_pos (by omega)]
      · have hd : 0 ≤ (v.fdiv (2 ^ Int.toNat 2)) ∧ (v.fdiv (2 ^ Int.toNat 2)) < 256 := by rw [Int.fdiv_eq_ediv_of_nonneg _ (by decide)]; simp only [show Int.toNat 4 = 4 from rfl, show Int.toNat 2 = 2 from rfl]; omega
        have hxb := bitOr_byte (x := lc * 2 ^ Int.toNat 4) (y := (v.fdiv (2 ^ Int.toNat 2))) (by rw [show (2 : Int) ^ Int.toNat 4 = 16 from rfl]; omega) hd.1 (by rw [show (2 : Int) ^ Int.toNat 4 = 16 from rfl]; omega) hd.2
        refine append_K (by assumption) (by assumption) (Upd.head hloI) ?_ (by rw [List.size_toArray, hcp.length, sizeLine_eq]; omega)
        intro h₁₈ F₁₈ N₁₈
        obtain ⟨T₁₈, N₁₉⟩ : ∃ T, News g L h₁₈ ((lo, listOf (ov ++ [Value.int (Builtin.bitOr (lc * 2 ^ Int.toNat 4) (v.fdiv (2 ^ Int.toNat 2))) T]).toArray (no + 1)) :: own) := ⟨_, by rw [List.push_toArray] at N₁₈; exact N₁₈⟩
        clear N₁₈
        (repeat' (first | (k_unfold; try dsimp only) | ((fail_if_success (with_reducible (refine stopAt ?_ ?_; rotate_left; first | exact s1 | exact s2 | exact s3 | exact s4 | exact s5 | exact s6 | exact s8 | exact s11 | exact s12 | exact s9 | exact s10 | exact s7))); (fail_if_success (with_reducible first | show LCg.CompSrc _ _ _ _ _ _ _ _ _ _ _ _ _ _ | show LCg.CompEnd _ _ _ _ _ _ _ _ _ _ _ _ _ _)); first | walk1 | (dsimp only; walk1))))
        rename Fr _ _ _ _ => F₂₀
        rename News _ _ _ _ => N₂₀
        refine FEnd.mk' (ov ++ [.int (Builtin.bitOr (lc * 2 ^ Int.toNat 4) (v.fdiv (2 ^ Int.toNat 2))) T₁₈], no + 1, (out ++ [Builtin.bitOr (lc * 2 ^ Int.toNat 4) (v.fdiv (2 ^ Int.toNat 2))], 3, Builtin.bitAnd v 3, 0), _, _, _, _) F₂₀ (by (repeat' (first | exact fmn | refine fmc (@rfl (Option Value) (some _)) ?_))) N₂₀ ?_ ?_ ⟨hcp.append (.cons _ _ .nil), ⟨by show (0 : Int) ≤ 3; omega, by show 3 < (4 : Int); omega⟩, ⟨by show (0 : Int) ≤ Builtin.bitAnd v 3; omega, by show Builtin.bitAnd v 3 < (64 : Int); omega, by show (3 : Int) = 2 → Builtin.bitAnd v 3 < (16 : Int); omega, by show (3 : Int) = 3 → Builtin.bitAnd v 3 < (4 : Int); omega⟩, ⟨by show (0 : Int) ≤ 0; omega, by show 0 ≤ ((i + 1 : Nat) : Int); omega⟩, by show (out ++ [Builtin.bitOr (lc * 2 ^ Int.toNat 4) (v.fdiv (2 ^ Int.toNat 2))] : List Int).length ≤ i + 1; simp; omega, ?_, ?_⟩
        · intro p hp; (revert p; refine fms ?_); exact .head _
        · intro p hp; exact .tail _ hp
        · intro x hx'
          rcases List.mem_append.mp hx' with hm | hm
          · exact hoin x hm
          · rw [List.mem_singleton.mp hm]; exact hxb
        · show (out ++ [Builtin.bitOr (lc * 2 ^ Int.toNat 4) (v.fdiv (2 ^ Int.toNat 2))], 3, Builtin.bitAnd v 3, 0) = _
          rw [htake]; unfold a2bStep; rw [if_neg h61, ← hve]; dsimp only; rw [if_neg (by omega), if_neg (by omega), if_neg (by omega), if_pos (by omega)]
      · have hd : 0 ≤ v ∧ v < 256 := by omega
        have hxb := bitOr_byte (x := lc * 2 ^ Int.toNat 6) (y := v) (by rw [show (2 : Int) ^ Int.toNat 6 = 64 from rfl]; omega) hd.1 (by rw [show (2 : Int) ^ Int.toNat 6 = 64 from rfl]; omega) hd.2
        refine append_K (by assumption) (by assumption) (Upd.head hloI) ?_ (by rw [List.size_toArray, hcp.length, sizeLine_eq]; omega)
        intro h₁₈ F₁₈ N₁₈
        obtain ⟨T₁₈, N₁₉⟩ : ∃ T, News g L h₁₈ ((lo, listOf (ov ++ [Value.int (Builtin.bitOr (lc * 2 ^ Int.toNat 6) v) T]).toArray (no + 1)) :: own) := ⟨_, by rw [List.push_toArray] at N₁₈; exact N₁₈⟩
        clear N₁₈
        (repeat' (first | (k_unfold; try dsimp only) | ((fail_if_success (with_reducible (refine stopAt ?_ ?_; rotate_left; first | exact s1 | exact s2 | exact s3 | exact s4 | exact s5 | exact s6 | exact s8 | exact s11 | exact s12 | exact s9 | exact s10 | exact s7))); (fail_if_success (with_reducible first | show LCg.CompSrc _ _ _ _ _ _ _ _ _ _ _ _ _ _ | show LCg.CompEnd _ _ _ _ _ _ _ _ _ _ _ _ _ _)); first | walk1 | (dsimp only; walk1))))
        rename Fr _ _ _ _ => F₂₀
        rename News _ _ _ _ => N₂₀
        refine FEnd.mk' (ov ++ [.int (Builtin.bitOr (lc * 2 ^ Int.toNat 6) v) T₁₈], no + 1, (out ++ [Builtin.bitOr (lc * 2 ^ Int.toNat 6) v], 0, 0, 0), _, _, _, _) F₂₀ (by (repeat' (first | exact fmn | refine fmc (@rfl (Option Value) (some _)) ?_))) N₂₀ ?_ ?_ ⟨hcp.append (.cons _ _ .nil), ⟨by show (0 : Int) ≤ 0; omega, by show 0 < (4 : Int); omega⟩, ⟨by show (0 : Int) ≤ 0; omega, by show 0 < (64 : Int); omega, by show (0 : Int) = 2 → 0 < (16 : Int); omega, by show (0 : Int) = 3 → 0 < (4 : Int); omega⟩, ⟨by show (0 : Int) ≤ 0; omega, by show 0 ≤ ((i + 1 : Nat) : Int); omega⟩, by show (out ++ [Builtin.bitOr (lc * 2 ^ Int.toNat 6) v] : List Int).length ≤ i + 1; simp; omega, ?_, ?_⟩
        · intro p hp; (revert p; refine fms ?_); exact .head _
        · intro p hp; exact .tail _ hp
        · intro x hx'
          rcases List.mem_append.mp hx' with hm | hm
          · exact hoin x hm
          · rw [List.mem_singleton.mp hm]; exact hxb
        · show (out ++ [Builtin.bitOr (lc * 2 ^ Int.toNat 6) v], 0, 0, 0) = _
          rw [htake]; unfold a2bStep; rw [if_neg h61, ← hve]; dsimp only; rw [if_neg (by omega), if_neg (by omega), if_neg (by omega), if_neg (by omega)]
  · refine elp12 fun ov no out q lc pads t1 t2 t3 t4 => ?_
    rintro u h₁₁ tk₁₁
    refine ela13 fun hv hq0 hq1 hlc hlc' hlc2 hlc3 hp0 hp1 hol hoin hfold => ?_
    rintro F₁₁ N₁₁
    dsimp only [kstB] at hv hq0 hq1 hlc hlc' hlc2 hlc3 hp0 hp1 hol hoin hfold F₁₁ N₁₁ ⊢
    have hcp := hv
    rw [List.take_of_length_le (Nat.le_refl _)] at hfold
    have hS : a2bS b = (out, q, lc, pads) := hfold.symm
    rw [hS] at hok h
    dsimp only at hok h
    obtain ⟨hok1, hok2⟩ := hok
    (repeat' (first | (k_unfold; try dsimp only) | ((fail_if_success (with_reducible (refine stopAt ?_ ?_; rotate_left; first | exact s1 | exact s2 | exact s3 | exact s4 | exact s5 | exact s6 | exact s8 | exact s11 | exact s12 | exact s9 | exact s10 | exact s7))); (fail_if_success (with_reducible first | show LCg.CompSrc _ _ _ _ _ _ _ _ _ _ _ _ _ _ | show LCg.CompEnd _ _ _ _ _ _ _ _ _ _ _ _ _ _)); first | walk1 | (dsimp only; walk1))))
    all_goals first
      | exact absurd ‹q = 1› hok1
      | (rename Fr _ _ _ _ => F₂₁
         exact h _ _ _ (fun b₁ o hb' e => F₂₁.keep b₁ o (hg ▸ hideAll_get _ e hb')))
end Mine
end

section
open PySem PySem.W PySem.Calls PyProof.Rows PySem.MeetsSeq
set_option Elab.async false
set_option maxRecDepth 100000
set_option maxHeartbeats 4000000
set_option linter.unusedVariables false
namespace Mine
theorem slot_btr : Slot "bytes" "translate" "bytes.translate" :=
  .of (owner := "bytes") (n := "translate") (by rw [typeLookup_type, builtinLookup_eq_fast]; kernel_rfl) (by decide +kernel) (by decide +kernel) (by decide +kernel)
    (by first | exact .inl (by decide +kernel) | exact .inr (by decide +kernel)) (by rw [isSubtype_type]; kernel_rfl)
theorem type_btr : typeOf (.builtin "bytes.translate") = pure (.type "method_descriptor") := by show builtinType _ = _; rw [builtinType_eq_fast]; kernel_rfl
theorem entry_btr : entryFor table "bytes.translate" = some Builtin.«bytes.translate» := entryFor_of_tree (by kernel_rfl)
theorem args_btr (a b : Value) : argsOk "bytes.translate" ⟨[a, b], []⟩ := by unfold argsOk; kernel_rfl
theorem entry_bmt : entryFor table "bytes.maketrans" = some Builtin.«bytes.maketrans» := entryFor_of_tree (by kernel_rfl)
theorem args_bmt (a b : Value) : argsOk "bytes.maketrans" ⟨[a, b], []⟩ := by unfold argsOk; kernel_rfl
theorem kind_bmt : builtinKind "bytes.maketrans" = some .staticMethod := by decide +kernel
theorem type_bytes_type : typeOf (.type "bytes") = pure (.type "type") := by first | rfl | kernel_rfl
/-- the table that bytes.maketrans makes of two pairs -/
noncomputable def trTab (a b x y : UInt8) : Array UInt8 := [(a, x), (b, y)].foldl (fun t (p : UInt8 × UInt8) => t.setIfInBounds p.1.toNat p.2) ((Array.range 256).map (·.toUInt8))
noncomputable def tr2 (a b x y c : UInt8) : UInt8 := if c = b then y else if c = a then x else c
theorem trTab_size (a b x y : UInt8) : (trTab a b x y).size = 256 := by simp [trTab]
theorem trTab_get (a b x y c : UInt8) : (trTab a b x y).getD c.toNat c = tr2 a b x y c := by
  have hc : c.toNat < 256 := c.toNat_lt
  have e1 : (b.toNat = c.toNat) ↔ c = b := by rw [UInt8.toNat_inj]; exact eq_comm
  have e2 : (a.toNat = c.toNat) ↔ c = a := by rw [UInt8.toNat_inj]; exact eq_comm
  simp only [trTab, List.foldl_cons, List.foldl_nil, Array.getD_eq_getD_getElem?, Array.getElem?_setIfInBounds, Array.size_setIfInBounds, Array.size_map, Array.size_range, tr2, e1, e2, hc, if_true]
  by_cases h1 : c = b
  · subst h1; simp [hc]
  · by_cases h2 : c = a
    · subst h2; simp [h1, hc]
    · simp [h1, h2, hc]
theorem check_bmt (a b : Value) : checkBuiltinCall "bytes.maketrans" ⟨[a, b], []⟩ = pure () := by kernel_rfl
theorem meets_bmt {a b x y : UInt8} {t u : Tok} : Meets (Builtin.«bytes.maketrans» ⟨[.bytes #[a, b] t, .bytes #[x, y] u], []⟩) (fun _ R s => ∀ t k, R (.ok (.ret (.bytes (trTab a b x y) t))) { s with toks := k }) := by
  refine .of_wp fun prog w A R s h => ?_
  show wpAny _ _ (Builtin.Bytes.maketransM .bytes _) _ _ _
  unfold Builtin.Bytes.maketransM
  refine wpAny_bind (wpAny_of_eq (a := ()) rfl ?_)
  refine wpAny_bind (wpAny_of_eq (a := ()) rfl ?_)
  refine wpAny_bind (wpAny_of_eq KBd.like_eq ?_)
  refine wpAny_bind (wpAny_of_eq KBd.like_eq ?_)
  refine wpAny_ite (KBy.ite_no (by simp) ?_)
  exact wpAny_bind (wpAny_mkBytes (wpAny_pure ⟨_, rfl, h _ _⟩) (by show (trTab a b x y).size ≤ _; rw [trTab_size, sizeLine_eq]; decide))
theorem meets_btr {b tab : Array UInt8} {t u : Tok} : Meets (Builtin.«bytes.translate» ⟨[.bytes b t, .bytes tab u], []⟩) (fun _ R s => tab.size = 256 ∧ b.size ≤ 16777216 ∧ ∀ t k, R (.ok (.ret (.bytes (b.map fun c => tab.getD c.toNat c) t))) { s with toks := k }) := by
  refine .of_wp fun prog w A R s h => ?_
  obtain ⟨ht, hb, h⟩ := h
  show wpAny _ _ (Builtin.Bytes.translateM .bytes _) _ _ _
  unfold Builtin.Bytes.translateM
  refine wpAny_ite (KBy.ite_no (by simp) ?_)
  refine wpAny_ite (KBy.ite_no (by simp) ?_)
  refine wpAny_ite (KBy.ite_no (show ¬ ((Value.bytes tab u == Value.none) = true) from Bool.false_ne_true) ?_)
  refine wpAny_bind (wpAny_of_eq KBd.like_eq ?_)
  refine wpAny_ite (KBy.ite_no (by rw [ht]; decide) ?_)
  refine wpAny_bind (wpAny_pure ?_)
  refine wpAny_bind (wpAny_pure ?_)
  refine wpAny_bind (wpAny_of_eq (a := b) rfl ?_)
  have e : (b.filter fun x => !((#[] : Array UInt8).contains x)) = b := by simp
  rw [e]
  dsimp only
  generalize hB : b.map _ = out at h ⊢
  have hs : out.size ≤ sizeLine := by rw [← hB, Array.size_map, sizeLine_eq]; exact hb
  by_cases q : (out == b) = true
  · rw [if_pos q]
    have e2 : out = b := eq_of_beq q
    subst e2
    refine wpAny_bind (wpAny_rule ?_)
    refine wpAny_bind ?_
    unfold Builtin.Bytes.Kind.same
    rw [if_pos (by decide)]
    refine wpAny_bind (wpAny_typeOf (typeIs_bytes s out t) ?_)
    rw [if_pos (by decide)]
    exact wpAny_pure (wpAny_pure ⟨_, rfl, h t s.toks⟩)
  · rw [if_neg q]
    exact wpAny_bind (wpAny_mkBytes (wpAny_pure ⟨_, rfl, h _ _⟩) hs)
section
variable {w : World} {A : Around} {E : Value → Shared → Prop} {s : Shared} {t u : Tok} {Q : Value → Shared → Prop}
theorem bmt_ {a b x y : UInt8} (h : ∀ t k, Q (.bytes (trTab a b x y) t) { s with toks := k }) : wpAny (model PP w) A (call (.builtin "bytes.maketrans") [.bytes #[a, b] t, .bytes #[x, y] u]) Q E s := by
  refine wpAny_call (codeAny_call_builtin (by decide +kernel) entry_bmt ?_)
  rw [check_bmt]
  exact wpAny_pure (meets_bmt PP w A (wants Q E) s h)
theorem btr_ {b tab : Array UInt8} (ht : tab.size = 256) (hb : b.size ≤ 16777216) (h : ∀ t k, Q (.bytes (b.map fun c => tab.getD c.toNat c) t) { s with toks := k }) : wpAny (model PP w) A (call (.builtin "bytes.translate") [.bytes b t, .bytes tab u]) Q E s :=
  call_meets slot_btr (typeIs_bytes _ _ _) entry_btr (args_btr _ _) meets_btr ⟨ht, hb, h⟩
theorem mbtr_ {b : Array UInt8} {pl : Sem Bool} {Q : Value × List Value → Shared → Prop} (h : Q (.builtin "bytes.translate", [.bytes b t]) s) : wpAny (model PP w) A (getMethod (.bytes b t) (PySem.Str.ofString "translate") pl) Q E s := by
  with_reducible exact KBd.method_of (.bytes b t) (typeIs_bytes _ _ _) slot_btr type_btr KBd.noRef h
theorem mbmt_ {g : Heap} {L : Addr} {m : Str → Option Value} {pl : Sem Bool} {Q : Value × List Value → Shared → Prop} (F : Fr g L s.heap m) (X : (hd.heap_1 w.params).In g) (h : Q (.builtin "bytes.maketrans", []) { s with toks := s.toks + 1 }) :
    wpAny (model PP w) A (getMethod (.type "bytes") (PySem.Str.ofString "maketrans") pl) Q E s :=
  method_type (T := "bytes") (v := .builtin "bytes.maketrans") (prog := PP) (h₀ := g) (L := L) (m := m) (K := hd.heap_1 w.params) F X type_bytes_type (by decide +kernel) (by kernel_rfl) (by decide +kernel) h
end
end Mine
end

section
open PySem PySem.W PySem.Calls PyProof.Rows PySem.MeetsSeq
set_option Elab.async false
set_option maxRecDepth 100000
set_option maxHeartbeats 4000000
set_option linter.unusedVariables false
namespace Mine
theorem fill64d : hd.heap_1 = hd.heap_1 ∧ Challenge.rw_oy0121_01 = Challenge.rw_oy0121_01 := by k_fill; exact ⟨rfl, rfl⟩
noncomputable def encF (b : List UInt8) (x y : UInt8) : List UInt8 := (b2aF b).map fun n => tr2 43 47 x y n.toNat.toUInt8
noncomputable def toPlus (b : List UInt8) (x y : UInt8) : List UInt8 := b.map (tr2 x y 43 47)
noncomputable def decF (b : List UInt8) (x y : UInt8) : List UInt8 := (a2bS (toPlus b x y)).1.map fun n => n.toNat.toUInt8
noncomputable def decOk (b : List UInt8) (x y : UInt8) : Bool := let q := a2bS (toPlus b x y); decide (q.2.1 ≠ 1 ∧ (q.2.1 = 0 ∨ 4 ≤ q.2.1 + q.2.2.2))
theorem b2aIn_len : ∀ (k : Nat) (o : List Int) (lc lb : Int), (b2aIn k o lc lb).1.length ≤ o.length + k
  | 0, o, lc, lb => by simp [b2aIn]
  | k + 1, o, lc, lb => by
    unfold b2aIn
    split
    · have := b2aIn_len k (o ++ [b64at (Builtin.bitAnd (lc.fdiv (2 ^ (lb - 6).toNat)) 63)]) lc (lb - 6)
      simp only [List.length_append, List.length_cons, List.length_nil] at this
      omega
    · show o.length ≤ _; omega
theorem b2aFold_len : ∀ (l : List Int) (c : List Int × Int × Int), (l.foldl b2aStep c).1.length ≤ c.1.length + 2 * l.length
  | [], c => by simp
  | z :: r, c => by
    have h1 := b2aFold_len r (b2aStep c z)
    have h2 : (b2aStep c z).1.length ≤ c.1.length + 2 := b2aIn_len 2 c.1 _ _
    simp only [List.foldl_cons, List.length_cons]
    omega
theorem b2aF_len (b : List UInt8) : (b2aF b).length ≤ 2 * b.length + 3 := by
  have h := b2aFold_len (b.map fun z => (z.toNat : Int)) ([], 0, 0)
  simp only [List.length_map, List.length_nil] at h
  unfold b2aF b2aEnd
  (repeat' split) <;> (try simp only [List.length_append, List.length_cons, List.length_nil]) <;> omega
theorem b64enc_call {w : World} {dp un : Nat} {fr gd} {s : Shared} {h₀ : Heap} {b : List UInt8} {x y : UInt8} {t u : Tok} {R : Result → Shared → Prop} (H : At w h₀ s []) (hdp : dp < 880) (hu : un < 8800) (hlen : b.length < 700)
    (h : ∀ h' tk u, KeepBut [] s.heap h' → R (.ok (.ret (.bytes (encF b x y).toArray u))) { s with heap := h', toks := tk }) :
    codeAny (model PP w) (AA dp un fr gd) (.call (.ref 129) ⟨[.bytes b.toArray t, .bytes #[x, y] u], []⟩) R s := by
  refine enter (binds := [("s", .bytes b.toArray t), ("altchars", .bytes #[x, y] u)]) H (by k_is) (by k_is) (by show dp < 1000; omega) (binds_K (H.gd.keeps H.keep).kin (by rfl) (by k_is) (by rfl) (by rfl) (by rfl)) (locs rfl) ?_ (by decide)
  intro p loose mg mb g L h₁ hg X T F N hlt
  k_fold
  (repeat' (first | (k_unfold; try dsimp only) | ((fail_if_success (with_reducible (refine stopAt ?_ ?_; rotate_left; first | exact s1 | exact s2 | exact s3 | exact s4 | exact s5 | exact s6 | exact s8 | exact s11 | exact s12 | exact s9 | exact s10 | exact s7))); (fail_if_success (with_reducible first | show LCg.CompSrc _ _ _ _ _ _ _ _ _ _ _ _ _ _ | show LCg.CompEnd _ _ _ _ _ _ _ _ _ _ _ _ _ _)); first | walk1 | (dsimp only; walk1))))
  refine wpAny_call (b2a_call (at_of X T F N (fun q hq => hq)) (by show dp + 1 < 890; omega) (by show un + _ < 8900; omega) (by omega) ?_)
  intro h₂ tk₂ u₂ K₂
  have F₂ := fr_after F K₂ (by simp) (by simp)
  have N₂ := news_after N K₂ (by simp)
  dsimp only
  (repeat' (first | (k_unfold; try dsimp only) | ((fail_if_success (with_reducible (refine stopAt ?_ ?_; rotate_left; first | exact s1 | exact s2 | exact s3 | exact s4 | exact s5 | exact s6 | exact s8 | exact s11 | exact s12 | exact s9 | exact s10 | exact s7))); (fail_if_success (with_reducible first | show LCg.CompSrc _ _ _ _ _ _ _ _ _ _ _ _ _ _ | show LCg.CompEnd _ _ _ _ _ _ _ _ _ _ _ _ _ _)); first | walk1 | (dsimp only; walk1))))
  · refine mbtr_ ?_
    (repeat' (first | (k_unfold; try dsimp only) | ((fail_if_success (with_reducible (refine stopAt ?_ ?_; rotate_left; first | exact s1 | exact s2 | exact s3 | exact s4 | exact s5 | exact s6 | exact s8 | exact s11 | exact s12 | exact s9 | exact s10 | exact s7))); (fail_if_success (with_reducible first | show LCg.CompSrc _ _ _ _ _ _ _ _ _ _ _ _ _ _ | show LCg.CompEnd _ _ _ _ _ _ _ _ _ _ _ _ _ _)); first | walk1 | (dsimp only; walk1))))
    rename Fr _ _ _ _ => F₃
    refine mbmt_ F₃ X ?_
    (repeat' (first | (k_unfold; try dsimp only) | ((fail_if_success (with_reducible (refine stopAt ?_ ?_; rotate_left; first | exact s1 | exact s2 | exact s3 | exact s4 | exact s5 | exact s6 | exact s8 | exact s11 | exact s12 | exact s9 | exact s10 | exact s7))); (fail_if_success (with_reducible first | show LCg.CompSrc _ _ _ _ _ _ _ _ _ _ _ _ _ _ | show LCg.CompEnd _ _ _ _ _ _ _ _ _ _ _ _ _ _)); first | walk1 | (dsimp only; walk1))))
    refine bmt_ ?_
    intro t₄ k₄
    (repeat' (first | (k_unfold; try dsimp only) | ((fail_if_success (with_reducible (refine stopAt ?_ ?_; rotate_left; first | exact s1 | exact s2 | exact s3 | exact s4 | exact s5 | exact s6 | exact s8 | exact s11 | exact s12 | exact s9 | exact s10 | exact s7))); (fail_if_success (with_reducible first | show LCg.CompSrc _ _ _ _ _ _ _ _ _ _ _ _ _ _ | show LCg.CompEnd _ _ _ _ _ _ _ _ _ _ _ _ _ _)); first | walk1 | (dsimp only; walk1))))
    refine btr_ (trTab_size _ _ _ _) (by rw [byteArr_size]; have := b2aF_len b; omega) ?_
    intro t₅ k₅
    (repeat' (first | (k_unfold; try dsimp only) | ((fail_if_success (with_reducible (refine stopAt ?_ ?_; rotate_left; first | exact s1 | exact s2 | exact s3 | exact s4 | exact s5 | exact s6 | exact s8 | exact s11 | exact s12 | exact s9 | exact s10 | exact s7))); (fail_if_success (with_reducible first | show LCg.CompSrc _ _ _ _ _ _ _ _ _ _ _ _ _ _ | show LCg.CompEnd _ _ _ _ _ _ _ _ _ _ _ _ _ _)); first | walk1 | (dsimp only; walk1))))
    have e : (byteArr (b2aF b)).map (fun c => (trTab 43 47 x y).getD c.toNat c) = (encF b x y).toArray := by
      unfold byteArr encF
      simp only [List.map_toArray, List.map_map, trTab_get]
      rfl
    rw [e]
    exact h _ _ _ (fun b₁ o hb' e => F₃.keep b₁ o (hg ▸ hideAll_get _ e hb'))
  · exact absurd rfl (by assumption : ¬ ((#[x, y] : Array UInt8).size : Int) = 2)
theorem b64dec_call {w : World} {dp un : Nat} {fr gd} {s : Shared} {h₀ : Heap} {b : List UInt8} {x y : UInt8} {t u : Tok} {R : Result → Shared → Prop} (H : At w h₀ s []) (hdp : dp < 880) (hu : un < 8800) (hlen : b.length < 1000) (hok : decOk b x y = true)
    (h : ∀ h' tk u, KeepBut [] s.heap h' → R (.ok (.ret (.bytes (decF b x y).toArray u))) { s with heap := h', toks := tk }) :
    codeAny (model PP w) (AA dp un fr gd) (.call (.ref 137) ⟨[.bytes b.toArray t, .bytes #[x, y] u], []⟩) R s := by
  refine enter (binds := [("s", .bytes b.toArray t), ("altchars", .bytes #[x, y] u), ("validate", .bool false)]) H (by k_is) (by k_is) (by show dp < 1000; omega) (binds_K (H.gd.keeps H.keep).kin (by rfl) (by k_is) (by rfl) (by rfl) (by rfl)) (locs rfl) ?_ (by decide)
  intro p loose mg mb g L h₁ hg X T F N hlt
  k_fold
  (repeat' (first | (k_unfold; try dsimp only) | ((fail_if_success (with_reducible (refine stopAt ?_ ?_; rotate_left; first | exact s1 | exact s2 | exact s3 | exact s4 | exact s5 | exact s6 | exact s8 | exact s11 | exact s12 | exact s9 | exact s10 | exact s7))); (fail_if_success (with_reducible first | show LCg.CompSrc _ _ _ _ _ _ _ _ _ _ _ _ _ _ | show LCg.CompEnd _ _ _ _ _ _ _ _ _ _ _ _ _ _)); first | walk1 | (dsimp only; walk1))))
  refine wpAny_call (decdata_call (at_of X T F N (fun q hq => hq)) (by show dp + 1 < 900; omega) (by show un + _ < 9000; omega) ?_)
  intro h₂ tk₂ K₂
  have F₂ := fr_after F K₂ (by simp) (by simp)
  have N₂ := news_after N K₂ (by simp)
  dsimp only
  (repeat' (first | (k_unfold; try dsimp only) | ((fail_if_success (with_reducible (refine stopAt ?_ ?_; rotate_left; first | exact s1 | exact s2 | exact s3 | exact s4 | exact s5 | exact s6 | exact s8 | exact s11 | exact s12 | exact s9 | exact s10 | exact s7))); (fail_if_success (with_reducible first | show LCg.CompSrc _ _ _ _ _ _ _ _ _ _ _ _ _ _ | show LCg.CompEnd _ _ _ _ _ _ _ _ _ _ _ _ _ _)); first | walk1 | (dsimp only; walk1))))
  rename Fr _ _ _ _ => F₃
  rename News _ _ _ _ => N₃
  refine wpAny_call (decdata_call (at_of X T F₃ N₃ (fun q hq => hq)) (by show dp + 1 < 900; omega) (by show un + _ < 9000; omega) ?_)
  intro h₄ tk₄ K₄
  have F₄ := fr_after F₃ K₄ (by simp) (by simp)
  have N₄ := news_after N₃ K₄ (by simp)
  dsimp only
  (repeat' (first | (k_unfold; try dsimp only) | ((fail_if_success (with_reducible (refine stopAt ?_ ?_; rotate_left; first | exact s1 | exact s2 | exact s3 | exact s4 | exact s5 | exact s6 | exact s8 | exact s11 | exact s12 | exact s9 | exact s10 | exact s7))); (fail_if_success (with_reducible first | show LCg.CompSrc _ _ _ _ _ _ _ _ _ _ _ _ _ _ | show LCg.CompEnd _ _ _ _ _ _ _ _ _ _ _ _ _ _)); first | walk1 | (dsimp only; walk1))))
  · refine mbtr_ ?_
    (repeat' (first | (k_unfold; try dsimp only) | ((fail_if_success (with_reducible (refine stopAt ?_ ?_; rotate_left; first | exact s1 | exact s2 | exact s3 | exact s4 | exact s5 | exact s6 | exact s8 | exact s11 | exact s12 | exact s9 | exact s10 | exact s7))); (fail_if_success (with_reducible first | show LCg.CompSrc _ _ _ _ _ _ _ _ _ _ _ _ _ _ | show LCg.CompEnd _ _ _ _ _ _ _ _ _ _ _ _ _ _)); first | walk1 | (dsimp only; walk1))))
    rename Fr _ _ _ _ => F₅
    refine mbmt_ F₅ X ?_
    (repeat' (first | (k_unfold; try dsimp only) | ((fail_if_success (with_reducible (refine stopAt ?_ ?_; rotate_left; first | exact s1 | exact s2 | exact s3 | exact s4 | exact s5 | exact s6 | exact s8 | exact s11 | exact s12 | exact s9 | exact s10 | exact s7))); (fail_if_success (with_reducible first | show LCg.CompSrc _ _ _ _ _ _ _ _ _ _ _ _ _ _ | show LCg.CompEnd _ _ _ _ _ _ _ _ _ _ _ _ _ _)); first | walk1 | (dsimp only; walk1))))
    refine bmt_ ?_
    intro t₆ k₆
    (repeat' (first | (k_unfold; try dsimp only) | ((fail_if_success (with_reducible (refine stopAt ?_ ?_; rotate_left; first | exact s1 | exact s2 | exact s3 | exact s4 | exact s5 | exact s6 | exact s8 | exact s11 | exact s12 | exact s9 | exact s10 | exact s7))); (fail_if_success (with_reducible first | show LCg.CompSrc _ _ _ _ _ _ _ _ _ _ _ _ _ _ | show LCg.CompEnd _ _ _ _ _ _ _ _ _ _ _ _ _ _)); first | walk1 | (dsimp only; walk1))))
    refine btr_ (trTab_size _ _ _ _) (by rw [List.size_toArray]; omega) ?_
    intro t₇ k₇
    have e : b.toArray.map (fun c => (trTab x y 43 47).getD c.toNat c) = (toPlus b x y).toArray := by
      unfold toPlus
      simp only [List.map_toArray, trTab_get]
    rw [e]
    (repeat' (first | (k_unfold; try dsimp only) | ((fail_if_success (with_reducible (refine stopAt ?_ ?_; rotate_left; first | exact s1 | exact s2 | exact s3 | exact s4 | exact s5 | exact s6 | exact s8 | exact s11 | exact s12 | exact s9 | exact s10 | exact s7))); (fail_if_success (with_reducible first | show LCg.CompSrc _ _ _ _ _ _ _ _ _ _ _ _ _ _ | show LCg.CompEnd _ _ _ _ _ _ _ _ _ _ _ _ _ _)); first | walk1 | (dsimp only; walk1))))
    rename Fr _ _ _ _ => F₈
    rename News _ _ _ _ => N₈
    refine wpAny_call (a2b_call (at_of X T F₈ N₈ (fun q hq => hq)) (by show dp + 1 < 890; omega) (by show un + _ < 8900; omega) (by unfold toPlus; rw [List.length_map]; exact hlen) (of_decide_eq_true hok) ?_)
    intro h₉ tk₉ u₉ K₉
    have F₉ := fr_after F₈ K₉ (by simp) (by simp)
    exact h _ _ _ (fun b₁ o hb' e => F₉.keep b₁ o (hg ▸ hideAll_get _ e hb'))
  · exact absurd rfl (by assumption : ¬ ((#[x, y] : Array UInt8).size : Int) = 2)
end Mine
end

section
open PySem PySem.W PySem.Calls PyProof.Rows PySem.MeetsSeq
set_option Elab.async false
set_option maxRecDepth 100000
set_option maxHeartbeats 4000000
set_option linter.unusedVariables false
namespace Mine
noncomputable abbrev sx (l : List Nat) : Str := ⟨l.toArray⟩
theorem sx_nil : Str.ofString "" = sx [] := by decide
theorem sx_add (a b : List Nat) : sx a ++ sx b = sx (a ++ b) := by
  refine PySem.Str.ext' (Array.toList_inj.mp ?_)
  rw [PySem.Str.cps_append, Array.toList_append]
theorem striter_st {g : Heap} {L I : Addr} {cls : String} {x : Str} {t : Tok} : ∀ i (h h' : Heap) (o : Obj) (nw : List (Addr × Obj)), h.IsStrIter I cls x t i → h.get? I = some o → h'.get? I = some o → (∀ b o, g.get? b = some o → h'.get? b = some o) → News g L h' nw → True → h'.IsStrIter I cls x t i :=
  fun i h h' o nw st e e' _ _ _ => by
    obtain ⟨o', q, r⟩ := st
    rw [e] at q; cases q
    exact ⟨o, e', r⟩
noncomputable def SrcS (prog : Program) (w : World) (A : Around) (h₀ : Heap) (L : Addr) (m : Str → Option Value) (env : Env) (elt : Expr) (x : Str) (scope : Scope) (cl : List (Str × Addr)) (Q : Value → Shared → Prop) (xv : Value) (s₁ : Shared) : Prop :=
  ∃ xt t news, xv = .str xt t ∧ A.handled = none ∧ Fr h₀ L s₁.heap m ∧ News h₀ L s₁.heap news ∧ xt.cps.size ≤ sizeLine ∧
      ∀ g, LCg.CompRest prog w A h₀ L m env elt x scope cl { s₁ with heap := g } (fun _ => True) (SignAt xt) (LCg.FinE h₀ L m { s₁ with heap := g } Q) xt.cps.size 0 [] news
/-- a comprehension over the signs of a text -/
theorem comp_str {prog : Program} {w : World} {A : Around} {E : Value → Shared → Prop} {s : Shared} {h₀ : Heap} {L : Addr} {m : Str → Option Value} {env : Env} {elt iter : Expr} {x : Str} {px : Pos} {scope : Scope} {cl : List (Str × Addr)} {pos : Pos} {Q : Value → Shared → Prop} (F₀ : Fr h₀ L s.heap m)
    (hclos : closureFor scope env = pure cl) (hcell : ∀ y ∈ scope.names, y.2 ≠ .cell) (hkind : scope.kind = .function)
    (hnames : ∀ y ∈ scope.names, y.2 = .local → scope.names.lookup y.1 = some .local) (hx : scope.names.lookup x = some .local)
    (h : wpAny (model prog w) A (eval iter env) (SrcS prog w A h₀ L m env elt x scope cl Q) E s)
    (hs : ∀ x, foldedSetIterable iter env x = pure x := by intro _; rfl) :
    wpAny (model prog w) A (eval (.ListComp elt [⟨.Name x px, iter, [], 0⟩] scope pos) env) Q E s := by
  rw [eval_ListComp]
  refine wpAny_comprehension_free (use := none) rfl hs hclos hkind hnames (wpAny_mono h (fun xv s₁ h₁ => ?_) fun _ _ e => e)
  obtain ⟨xt, t, news, rfl, hh, F, N, hsz, R⟩ := h₁
  cases ha : xt.cps.all (· < 128)
  · refine wpAny_pyIter_wide ha ?_
    refine LCg.block_U (Walks.strWide hh s₁.heap.objs.size xt t) hsz (fun i h st => by obtain ⟨o, e, _⟩ := st; exact ⟨o, e⟩) striter_st hcell hkind hx ⟨_, Heap.get?_push_size _ rfl, rfl, rfl⟩ (fun b hb => ?_)
      (F.keeps fun _ _ e => Heap.get?_push_of_some _ e) (N.grown fun _ _ e => Heap.get?_push_of_some _ e) (Nat.ne_of_lt F.ns.lt) (next_is_new F) (fun p hp => Nat.ne_of_lt (Heap.lt_size (N p hp).1)) trivial (R _) ?_
    · (revert b; refine fms ?_)
      show s₁.heap.objs.size < (s₁.heap.push _).objs.size
      rw [Heap.size_push]; exact Nat.lt_succ_self _
    · intro D C h tk m' ys news' F' N' o1 hn hC₀ hD₀ hCL hDL hCD offC fin
      refine ⟨m', hn, fun h'' hs'' => fin D h'' tk (F'.change hs'' hCL hC₀) (fun p hp => ?_) o1⟩
      refine ⟨hs''.extBut _ _ ?_ (N' p hp).1, (N' p hp).2⟩
      (revert p; refine fmc ?_ fun p hp => ?_)
      · exact Ne.symm hCD
      · exact offC p hp
  · refine wpAny_pyIter_ascii ha ?_
    refine LCg.block_U (Walks.strAscii hh s₁.heap.objs.size xt t) hsz (fun i h st => by obtain ⟨o, e, _⟩ := st; exact ⟨o, e⟩) striter_st hcell hkind hx ⟨_, Heap.get?_push_size _ rfl, rfl, rfl⟩ (fun b hb => ?_)
      (F.keeps fun _ _ e => Heap.get?_push_of_some _ e) (N.grown fun _ _ e => Heap.get?_push_of_some _ e) (Nat.ne_of_lt F.ns.lt) (next_is_new F) (fun p hp => Nat.ne_of_lt (Heap.lt_size (N p hp).1)) trivial (R _) ?_
    · (revert b; refine fms ?_)
      show s₁.heap.objs.size < (s₁.heap.push _).objs.size
      rw [Heap.size_push]; exact Nat.lt_succ_self _
    · intro D C h tk m' ys news' F' N' o1 hn hC₀ hD₀ hCL hDL hCD offC fin
      refine ⟨m', hn, fun h'' hs'' => fin D h'' tk (F'.change hs'' hCL hC₀) (fun p hp => ?_) o1⟩
      refine ⟨hs''.extBut _ _ ?_ (N' p hp).1, (N' p hp).2⟩
      (revert p; refine fmc ?_ fun p hp => ?_)
      · exact Ne.symm hCD
      · exact offC p hp
section
variable {w : World} {A : Around} {E : Value → Shared → Prop} {s : Shared} {g : Heap} {L C : Addr} {m : Str → Option Value} {env : Env} {scope : Scope} {cl : List (Str × Addr)} {p : Program} {loose : List Str} {mg mb : Str → Option Value} {x : Str} {pos : Pos} {v : Value} {Q : Value → Shared → Prop}
theorem ld_glb (F : Fr g L s.heap m) (X : (hd.heap_1 w.params).In g) (T : TopRead p loose mg mb g) (e : nsIn (hd.heap_1 w.params) mainGlobals x = some (some v)) (h : Q v s) (hg : env.globals = mainGlobals := by rfl)
    (hk : (compEnvC scope cl C env).scope.kind = .function := by rfl) (hx : (compEnvC scope cl C env).kindOf x = some .globalImplicit := by rfl) (hd : (x == ("__debug__" : Str)) = false := by decide) :
    wpAny (model PP w) A (eval (.Name x pos) (compEnvC scope cl C env)) Q E s :=
  Name_function_global hk hx (loadGlobal_global (env := compEnvC scope cl C env) (show s.heap.Ns env.globals mg from hg ▸ (T.keeps F.keep).g) (mg_of X T.g e) h) hd
theorem ld_blt (F : Fr g L s.heap m) (X : (hd.heap_1 w.params).In g) (T : TopRead p loose mg mb g) (e : nsIn (hd.heap_1 w.params) mainGlobals x = some none) (hv : bootBuiltins x = some v) (hn : x ≠ "__name__") (h : Q v s) (hg : env.globals = mainGlobals := by rfl) (hb : env.builtins = builtinsNs := by rfl)
    (hk : (compEnvC scope cl C env).scope.kind = .function := by rfl) (hx : (compEnvC scope cl C env).kindOf x = some .globalImplicit := by rfl) (hd : (x == ("__debug__" : Str)) = false := by decide) :
    wpAny (model PP w) A (eval (.Name x pos) (compEnvC scope cl C env)) Q E s :=
  Name_function_global hk hx (loadGlobal_builtin (env := compEnvC scope cl C env) (show s.heap.Ns env.globals mg from hg ▸ (T.keeps F.keep).g) (mg_none_of X T.g e) (show s.heap.Ns env.builtins mb from hb ▸ (T.keeps F.keep).b) ((T.builtins x hn).trans hv) h) hd
end
theorem glue_fold : ∀ (ls : List (List Nat)) (a : Array Nat), (ls.map sx).foldl (fun (acc : Array Nat) (p : Str) => acc ++ (#[] : Array Nat) ++ p.cps) a = a ++ ls.flatten.toArray
  | [], a => by simp
  | x :: r, a => by
    rw [List.map_cons, List.foldl_cons, glue_fold r]
    simp
theorem glue_nil (ls : List (List Nat)) : Txt.join (Str.ofString "") (ls.map sx) = sx ls.flatten := by
  show Builtin.Str.glued _ _ = _
  unfold Builtin.Str.glued
  rw [show (Str.ofString "").cps = #[] by decide]
  cases ls with
  | nil => rfl
  | cons x r =>
    simp only [List.map_cons, List.drop_one, List.tail_cons, List.headD_cons]
    rw [glue_fold]
    simp
theorem occ_no {x : Str} {c : Nat} (h : (Builtin.Str.occurrences x ⟨#[c]⟩ 0 x.length 1).isEmpty = true) : c ∉ x.cps.toList := by
  have := StrLaws.found_one x c
  rw [h] at this
  exact of_decide_eq_false this.symm
theorem occ_yes {x : Str} {c : Nat} (h : (Builtin.Str.occurrences x ⟨#[c]⟩ 0 x.length 1).isEmpty = false) : c ∈ x.cps.toList := by
  have := StrLaws.found_one x c
  rw [h] at this
  exact of_decide_eq_true this.symm
theorem strs_len {vs : List Value} {ys : List Str} (h : StrsAre vs ys) : vs.length = ys.length := by
  induction h with
  | nil => rfl
  | cons y t _ ih => simp [ih]
theorem strs_snoc {us : List Value} {ws : List Str} {x : Str} {t : Tok} (h : StrsAre us ws) : StrsAre (us ++ [.str x t]) (ws ++ [x]) := h.append' (.cons _ _ .nil)
theorem sum_le {α : Type} (f : α → Nat) (k : Nat) : ∀ (l : List α), (∀ x ∈ l, f x ≤ k) → (l.map f).sum ≤ k * l.length
  | [], _ => by simp
  | x :: r, h => by
    have h1 := sum_le f k r (fun y hy => h y (List.mem_cons_of_mem _ hy))
    have h2 := h x (List.mem_cons_self ..)
    simp only [List.map_cons, List.sum_cons, List.length_cons, Nat.mul_add, Nat.mul_one]
    omega
theorem sadd {w : World} {A : Around} {E : Value → Shared → Prop} {s : Shared} {a b : List Nat} {x y : Str} {t u : Tok} {Q : Value → Shared → Prop} (hx : x = sx a) (hy : y = sx b) (hz : a.length + b.length ≤ 16777216) (h : ∀ t k, Q (.str (sx (a ++ b)) t) { s with toks := k }) :
    wpAny (model PP w) A (binaryOp .Add (.str x t) (.str y u)) Q E s := by
  subst hx hy
  refine add_str (fun t' k => ?_) (by show a.length + b.length ≤ _; rw [sizeLine_eq]; exact hz)
  rw [sx_add]
  exact h t' k
end Mine
end

section
open PySem PySem.W PySem.Calls PyProof PyProof.Rows PySem.MeetsSeq
set_option maxRecDepth 100000
set_option linter.unusedVariables false
set_option exponentiation.threshold 100
namespace Mine
theorem tx_item {l : List Nat} {i : Int} (h0 : 0 ≤ i) (h1 : i < (l.length : Int)) : Txt.item (sx l) i = sx [l.getD i.toNat 0] := by
  unfold Txt.item Txt.charAt seqIndex?
  have e : (sx l).length = l.length := by simp [Str.length]
  rw [e]
  simp only [show ¬ i < 0 by omega, if_false]
  have c : (decide (0 ≤ i) && decide (i < (l.length : Int))) = true := by simp; omega
  simp only [c, if_true, Option.bind_some]
  simp [List.getD_eq_getElem?_getD]
theorem slice_range (n : Int) (h0 : 0 ≤ n) : sliceRange 0 n 1 = List.range n.toNat := by
  unfold sliceRange
  simp only [show (1 : Int) > 0 by decide, if_true]
  have c : (if (0 : Int) < n then (n - 0 + 1 - 1) / 1 else 0) = n := by split <;> omega
  rw [c]
  refine (List.map_congr_left (g := id) fun k _ => ?_).trans (List.map_id _)
  show ((0 : Int) + 1 * (k : Int)).toNat = k
  omega
theorem take_pick (l : List Nat) : ∀ k, k ≤ l.length → (List.range k).filterMap (fun i => l[i]?) = l.take k := by
  intro k
  induction k with
  | zero => simp
  | succ k ih =>
    intro hk
    rw [List.range_succ, List.filterMap_append, ih (by omega), List.take_add_one]
    have : l[k]? = some l[k] := List.getElem?_eq_getElem (by omega)
    simp [this]
theorem tx_take {l : List Nat} {j : Int} (h0 : 0 ≤ j) : Txt.slice (sx l) none (some j) = sx (l.take j.toNat) := by
  unfold Txt.slice Builtin.Str.strSliceIndices
  have e : (sx l).length = l.length := by simp [Str.length]
  rw [e]
  simp only [show (1 : Int) > 0 by decide, if_true, show ¬ j < 0 by omega, if_false]
  rw [slice_range _ (by omega), List.length_range]
  split
  · rename_i h
    have : l.length ≤ j.toNat := by simp at h; omega
    rw [List.take_of_length_le this]
  · have e2 : (max 0 (min j (l.length : Int))).toNat = min j.toNat l.length := by omega
    rw [e2]
    have := take_pick l (min j.toNat l.length) (by omega)
    simp only [List.getElem?_toArray]
    rw [this, ← List.take_take, List.take_of_length_le (Nat.le_refl l.length)]
theorem tx_rep {c : Nat} {n : Int} (h0 : 0 ≤ n) : Txt.mul (sx [c]) n = sx (List.replicate n.toNat c) := by
  have key : ∀ (k : Nat) (a : Array Nat), (List.replicate k (#[c] : Array Nat)).foldl (· ++ ·) a = a ++ (List.replicate k c).toArray := by
    intro k
    induction k with
    | zero => intro a; simp
    | succ k ih =>
      intro a
      rw [List.replicate_succ, List.foldl_cons, ih, List.replicate_succ, Array.append_assoc]
      congr 1
      apply Array.toList_inj.mp
      simp
  unfold Txt.mul
  split
  · have : n = 0 := by omega
    subst this; rfl
  · split
    · rename_i h1 h2
      have : n = 1 := by simpa [Str.length] using h2
      subst this; rfl
    · rw [key]; simp
theorem nopl {x y : Int} (h0 : 0 < y) (h1 : y ≤ 2 ^ 60) : Builtin.divisionGoesByPylong x y = false := by
  refine noPylong_of_log2 ((Nat.log2_lt (by omega)).mpr ?_)
  have : (2 : Nat) ^ 60 < 2 ^ 9000 := Nat.pow_lt_pow_right (by decide) (by decide)
  omega
end Mine
end

section
open PySem PySem.W PySem.Calls PyProof PyProof.Rows PySem.MeetsSeq
set_option Elab.async false
set_option maxRecDepth 100000
set_option maxHeartbeats 4000000
set_option linter.unusedVariables false
namespace Mine
noncomputable abbrev sRead : Str := Str.ofString "read"
theorem fs_look : typeLookup (.type "function") "__setattr__" = pure (some (.builtin "object.__setattr__")) := by rw [typeLookup_type, builtinLookup_eq_fast]; kernel_rfl
theorem fs_read : typeLookup (.type "function") sRead = pure none := by rw [typeLookup_type, builtinLookup_eq_fast]; kernel_rfl
theorem fg_look : typeLookup (.type "function") "__getattribute__" = pure (some (.builtin "object.__getattribute__")) := by rw [typeLookup_type, builtinLookup_eq_fast]; kernel_rfl
theorem fs_mro : mroOf (.type "function") = pure [.type "function", .type "object"] := by kernel_rfl
theorem fs_refuse (self : Value) : refuseLoop self "__setattr__" [.type "function", .type "object"] = pure () := by kernel_rfl
theorem slot_fsa : Slot "function" "__setattr__" "object.__setattr__" :=
  .of (owner := "object") (n := "__setattr__") (by rw [typeLookup_type, builtinLookup_eq_fast]; kernel_rfl) (by decide +kernel) (by decide +kernel) (by decide +kernel)
    (by first | exact .inl (by decide +kernel) | exact .inr (by decide +kernel)) (by rw [isSubtype_type]; kernel_rfl)
theorem ty_fn {h : Heap} {f : Addr} {od : Option Addr} {d : Data} {sl : Array (Option Value)} {M : Model} (hf : h.get? f = some ⟨.type "function", od, d, sl⟩) : Looks M h (typeOf (.ref f)) (.type "function") :=
  fun A Q E s k q => wpAny_typeOf ⟨_, k _ _ hf, rfl⟩ q
noncomputable abbrev fnObj (od : Option Addr) (fd : FuncData) : Obj := { cls := .type "function", dict := od, data := .func fd }
noncomputable abbrev readDict (w : World) (v : Value) (tk : Tok) : Obj := dictOf [⟨PyData.keyHash w.params sRead, .str sRead tk, v⟩] 1
section
variable {w : World} {A : Around} {E : Value → Shared → Prop} {s : Shared} {g : Heap} {L : Addr} {m : Str → Option Value} {news news' : List (Addr × Obj)}
theorem setAttr_fn {f : Addr} {fd : FuncData} {v : Value} {Q : Unit → Shared → Prop} (F : Fr g L s.heap m) (N : News g L s.heap news) (U : Upd f (fnObj none fd) (fnObj (some s.heap.objs.size) fd) news news')
    (h : ∀ h' tk₁ tk₂, Fr g L h' m → News g L h' ((s.heap.objs.size, readDict w v tk₁) :: news') → (∀ p ∈ news', p.1 < s.heap.objs.size) → Q () { s with heap := h', toks := tk₂ }) :
    wpAny (model PP w) A (setAttr (.ref f) sRead v) Q E s := by
  obtain ⟨pre, post, rfl, rfl, ha, hb⟩ := U.split
  have hf : s.heap.get? f = some (fnObj none fd) := (N (f, fnObj none fd) (by simp)).1
  unfold setAttr callSpecial?
  refine wpAny_bind (wpAny_mkText (wpAny_bind (wpAny_bind ?_)))
  refine wpAny_specialOf (T := "function") ⟨_, hf, rfl⟩ fs_look ?_
  refine wpAny_holding ?_
  rw [slot_fsa.bind]
  refine wpAny_bind (wpAny_pure (wpAny_bind ?_))
  refine wpAny_call_entry slot_fsa ⟨_, hf, rfl⟩ PySem.F.store_object.entry ?_ (PySem.F.store_object.args (.ref f) (.str sRead s.toks) v)
  show wpAny _ _ (Builtin.«object.__setattr__» ⟨[.ref f, .str sRead s.toks, v], []⟩) _ _ _
  rw [osa_eq, refuse_eq]
  refine wpAny_bind (wpAny_bind (wpAny_typeOf (T := "function") ⟨_, hf, rfl⟩ ?_))
  rw [fs_mro]
  refine wpAny_bind (wpAny_pure ?_)
  rw [fs_refuse]
  refine wpAny_pure ?_
  refine wpAny_bind (wpAny_typeOf (T := "function") ⟨_, hf, rfl⟩ ?_)
  rw [fs_read]
  refine wpAny_bind (wpAny_pure ?_)
  refine wpAny_bind (wpAny_pure ?_)
  dsimp only
  unfold Builtin.ObjectAttr.storeInOwnDict
  refine wpAny_bind (wpAny_of_eq (a := ()) (by first | rfl | kernel_rfl) ?_)
  refine wpAny_ite (KBy.ite_no (by decide) ?_)
  unfold Builtin.ObjectAttr.ownDictForStores instanceDict
  refine wpAny_bind (wpAny_bind (wpAny_loadPart hf ?_))
  dsimp only
  refine wpAny_ite (KBy.ite_no (by decide) ?_)
  refine wpAny_bind (wpAny_alloc ?_)
  have hf₁ : (s.heap.push { cls := .type "dict", data := .dict #[] }).get? f = some (fnObj none fd) := Heap.get?_push_of_some _ hf
  have F₁ := F.push { cls := .type "dict", data := .dict #[] }
  have N₁ := N.push F { cls := .type "dict", data := .dict #[] }
  have hne : s.heap.objs.size ≠ f := Nat.ne_of_gt (Heap.lt_size hf)
  rw [← List.cons_append] at N₁
  obtain ⟨F₂, N₂⟩ := news_upd (f := fun o => { o with dict := some s.heap.objs.size }) F₁ N₁ (fun p hp => by
    rcases List.mem_cons.mp hp with rfl | hp
    · exact hne
    · exact ha p hp) hb rfl rfl
  refine wpAny_bind (wpAny_update hf₁ ?_)
  unfold dictMade
  refine wpAny_ite (KBy.ite_no (by decide +kernel) ?_)
  refine wpAny_pure ?_
  dsimp only
  unfold Builtin.ObjectAttr.storeInDict
  refine wpAny_bind (wpAny_pure ?_)
  unfold nsSet
  have hd₂ := (N₂ (s.heap.objs.size, _) (.head _)).1
  refine wpAny_bind (wpAny_bind (wpAny_bind (wpAny_askSetting (wpAny_pure (wpAny_bind (wpAny_mkText (wpAny_bind (wpAny_loadPart hd₂ ?_))))))))
  dsimp only
  rw [aRefKeyMayBeTheName_at]
  refine wpAny_ite (KBy.ite_no (by simp) ?_)
  have hlt : ∀ p ∈ pre ++ (f, fnObj (some s.heap.objs.size) fd) :: post, p.1 < s.heap.objs.size := by
    intro p hp
    rcases List.mem_append.mp hp with hp | hp
    · exact Heap.lt_size (N p (List.mem_append_left _ hp)).1
    · rcases List.mem_cons.mp hp with rfl | hp
      · exact Heap.lt_size hf
      · exact Heap.lt_size (N p (List.mem_append_right _ (.tail _ hp))).1
  obtain ⟨F₃, N₃⟩ := news_upd (pre := []) (f := Obj.putName sRead (PyData.keyHash w.params sRead) (.str sRead (s.toks + 1)) v) (o' := readDict w v (s.toks + 1)) F₂ N₂ (fun _ hp => nomatch hp) (fun p hp => Nat.ne_of_lt (hlt p hp)) (by rfl) rfl
  refine wpAny_updatePart hd₂ ?_
  refine wpAny_bind (wpAny_lookBehind (N₃ _ (.head _)).1 (pastItsLine_dict (by show 1 ≤ _; rw [sizeLine_eq]; decide)) ?_)
  exact wpAny_pure ⟨_, rfl, wpAny_pure (wpAny_pure (h _ _ _ F₃ N₃ hlt))⟩
theorem fg_hook : typeLookup (.type "function") "__getattr__" = pure none := by rw [typeLookup_type, builtinLookup_eq_fast]; kernel_rfl
theorem slot_fga : Slot "function" "__getattribute__" "object.__getattribute__" :=
  .of (owner := "object") (n := "__getattribute__") (by rw [typeLookup_type, builtinLookup_eq_fast]; kernel_rfl) (by decide +kernel) (by decide +kernel) (by decide +kernel)
    (by first | exact .inl (by decide +kernel) | exact .inr (by decide +kernel)) (by rw [isSubtype_type]; kernel_rfl)
theorem entry_oga : entryFor table "object.__getattribute__" = some Builtin.«object.__getattribute__» := entryFor_of_tree (by kernel_rfl)
theorem args_oga (a b : Value) : argsOk "object.__getattribute__" ⟨[a, b], []⟩ := by unfold argsOk; kernel_rfl
theorem getAttr_fn {f d : Addr} {fd : FuncData} {v : Value} {tk : Tok} {e : Bool} {Q : Value → Shared → Prop} (hf : s.heap.get? f = some (fnObj (some d) fd)) (hd : s.heap.get? d = some (readDict w v tk)) (hv : handedIn v = true) (h : Q v { s with toks := s.toks + 1 }) :
    wpAny (model PP w) A (getAttr (.ref f) sRead e) Q E s := by
  unfold getAttr getAttrBy
  refine wpAny_bind (wpAny_mkText (wpAny_holding (wpAny_bind (wpAny_typeOf (T := "function") ⟨_, hf, rfl⟩ ?_))))
  rw [fg_look]
  refine wpAny_bind (wpAny_pure ?_)
  dsimp only
  refine wpAny_ite (KBy.ite_no (by simp [onTheHeap]) ?_)
  unfold getAttrByItsOwn hookBefore callGetattribute boundAndCalled
  refine wpAny_bind (wpAny_of_eq (show (if onTheHeap (.type "function") then typeLookup (.type "function") "__getattr__" else pure none) = pure none from rfl) ?_)
  refine wpAny_bind (wpAny_attempt (wpAny_holding ?_))
  refine wpAny_ite (KBy.ite_no (by simp [onTheHeap]) ?_)
  rw [slot_fga.bind]
  refine wpAny_bind (wpAny_pure ?_)
  refine wpAny_call_entry slot_fga ⟨_, hf, rfl⟩ entry_oga ?_ (args_oga _ _)
  show wpAny _ _ (Builtin.«object.__getattribute__» ⟨[.ref f, .str sRead s.toks], []⟩) _ _ _
  unfold Builtin.«object.__getattribute__»
  refine wpAny_bind (wpAny_of_eq (a := (.ref f, [.str sRead s.toks])) (by rfl) ?_)
  dsimp only
  refine wpAny_bind (wpAny_of_eq (a := sRead) (by rfl) ?_)
  refine wpAny_bind (wpAny_typeOf (T := "function") ⟨_, hf, rfl⟩ ?_)
  unfold Builtin.ObjectAttr.find
  rw [fs_read]
  refine wpAny_bind (wpAny_bind (wpAny_pure (wpAny_bind (wpAny_pure (wpAny_bind (wpAny_pure ?_))))))
  dsimp only
  unfold Builtin.ObjectAttr.ownThenClass Builtin.ObjectAttr.inOwnDict Builtin.ObjectAttr.ownDict loadHead instanceDict
  refine wpAny_bind (wpAny_bind (wpAny_bind (wpAny_loadPart hf ?_)))
  dsimp only
  refine wpAny_bind (wpAny_loadPart hf ?_)
  dsimp only
  refine wpAny_pure ?_
  unfold Builtin.ObjectAttr.inDict nsGet
  dsimp only
  refine wpAny_bind (wpAny_loadPart hd ?_)
  refine wpAny_of_eq (a := some v) (by rfl) ?_
  refine wpAny_bind (wpAny_rule (wpAny_pure ?_))
  refine wpAny_pure ⟨_, rfl, ?_⟩
  show wpAny _ _ (handedOut v) _ _ _
  rw [handedOut_of hv]
  exact wpAny_pure h
theorem getMethod_fn {f d : Addr} {fd : FuncData} {v : Value} {tk : Tok} {pl : Sem Bool} {Q : Value × List Value → Shared → Prop} (hf : s.heap.get? f = some (fnObj (some d) fd)) (hd : s.heap.get? d = some (readDict w v tk)) (hv : handedIn v = true) (h : Q (v, []) { s with toks := s.toks + 1 }) :
    wpAny (model PP w) A (getMethod (.ref f) sRead pl) Q E s := by
  unfold getMethod
  refine wpAny_bind (wpAny_specialOf (T := "function") ⟨_, hf, rfl⟩ fg_look ?_)
  dsimp only
  refine wpAny_ite (KBy.ite_no (by decide +kernel) ?_)
  refine wpAny_bind (wpAny_specialOf (T := "function") ⟨_, hf, rfl⟩ fg_hook ?_)
  refine wpAny_ite (KBy.ite_no (by decide) ?_)
  refine wpAny_bind (wpAny_specialOf (T := "function") ⟨_, hf, rfl⟩ fs_read ?_)
  exact wpAny_bind (getAttr_fn hf hd hv (wpAny_pure h))
end
end Mine
end

section
open PySem PySem.W PySem.Calls PyProof PyProof.Rows PySem.MeetsSeq
set_option Elab.async false
set_option maxRecDepth 100000
set_option maxHeartbeats 4000000
set_option linter.unusedVariables false
namespace Mine
theorem ci_next : Slot "callable_iterator" "__next__" "callable_iterator.__next__" :=
  .of (owner := "callable_iterator") (n := "__next__") (by rw [typeLookup_type, builtinLookup_eq_fast]; kernel_rfl) (by decide +kernel) (by decide +kernel) (by decide +kernel)
    (by first | exact .inl (by decide +kernel) | exact .inr (by decide +kernel)) (by rw [isSubtype_type]; kernel_rfl)
theorem ci_self : Slot "callable_iterator" "__iter__" "callable_iterator.__iter__" :=
  .of (owner := "callable_iterator") (n := "__iter__") (by rw [typeLookup_type, builtinLookup_eq_fast]; kernel_rfl) (by decide +kernel) (by decide +kernel) (by decide +kernel)
    (by first | exact .inl (by decide +kernel) | exact .inr (by decide +kernel)) (by rw [isSubtype_type]; kernel_rfl)
theorem ci_entry : entryFor table "callable_iterator.__next__" = some Builtin.«callable_iterator.__next__» := entryFor_of_tree (by kernel_rfl)
theorem ci_entryS : entryFor table "callable_iterator.__iter__" = some Builtin.«dict_keyiterator.__iter__» := entryFor_alias (id' := "dict_keyiterator.__iter__") (by kernel_rfl) rfl (by decide +kernel) (by kernel_rfl)
theorem ci_args (a : Value) : argsOk "callable_iterator.__next__" ⟨[a], []⟩ := by unfold argsOk; kernel_rfl
theorem ci_argsS (a : Value) : argsOk "callable_iterator.__iter__" ⟨[a], []⟩ := by unfold argsOk; kernel_rfl
theorem it_entry : entryFor table "iter" = some Builtin.«iter» := entryFor_of_tree (by kernel_rfl)
theorem it_args (a b : Value) : argsOk "iter" ⟨[a, b], []⟩ := by unfold argsOk; kernel_rfl
theorem it_kind : builtinKind "iter" = none := by decide +kernel
theorem me_call : typeLookup (.type "method") "__call__" = pure (some (.builtin "method.__call__")) := by rw [typeLookup_type, builtinLookup_eq_fast]; kernel_rfl
noncomputable abbrev ciObj (q : Addr) (ts : Tok) : Obj := { cls := .type "callable_iterator", data := .fields #[.ref q, .str (Str.ofString "") ts, .bool false] }
section
variable {prog : Program} {w : World} {A : Around} {E : Value → Shared → Prop} {s : Shared} {g : Heap} {L : Addr} {m : Str → Option Value} {news : List (Addr × Obj)}
theorem iter_two {q : Addr} {f self : Value} {ts : Tok} {Q : Value → Shared → Prop} (hq : s.heap.get? q = some (methodObj f self))
    (h : Q (.ref s.heap.objs.size) { s with heap := s.heap.push (ciObj q ts) }) :
    wpAny (model prog w) A (call (.builtin "iter") [.ref q, .str (Str.ofString "") ts]) Q E s := by
  refine call_function_meets (S := fun _ R s => (∃ f self, s.heap.get? q = some (methodObj f self)) ∧ R (.ok (.ret (.ref s.heap.objs.size))) { s with heap := s.heap.push (ciObj q ts) }) it_kind (by decide +kernel) it_entry (it_args _ _) ?_ ⟨⟨_, _, hq⟩, h⟩
  refine .of_wp fun prog w A R s hS => ?_
  obtain ⟨⟨f, self, hq⟩, h⟩ := hS
  show wpAny _ _ (Builtin.«iter» _) _ _ _
  unfold Builtin.«iter»
  refine wpAny_bind (wpAny_of_eq (a := [.ref q, .str (Str.ofString "") ts]) (by rfl) ?_)
  dsimp only
  refine wpAny_bind (wpAny_specialOf (T := "method") ⟨_, hq, rfl⟩ me_call ?_)
  refine wpAny_ite (KBy.ite_no (by decide) ?_)
  refine wpAny_bind (wpAny_rule (wpAny_bind (wpAny_newObj_type ?_)))
  exact wpAny_pure ⟨_, rfl, h⟩
theorem iter_twoN {q : Addr} {f self : Value} {ts : Tok} {Q : Value → Shared → Prop} (F : Fr g L s.heap m) (N : News g L s.heap ((q, methodObj f self) :: news))
    (h : ∀ h' it, it = s.heap.objs.size → Fr g L h' m → News g L h' ((it, ciObj q ts) :: (q, methodObj f self) :: news) → Q (.ref it) { s with heap := h' }) :
    wpAny (model prog w) A (call (.builtin "iter") [.ref q, .str (Str.ofString "") ts]) Q E s :=
  iter_two (N _ (.head _)).1 (h _ _ rfl (F.push _) (N.push F _))
theorem pyIter_ci {it q : Addr} {ts : Tok} {Q : Value → Shared → Prop} (hit : s.heap.get? it = some (ciObj q ts)) (h : Q (.ref it) s) : wpAny (model prog w) A (pyIter (.ref it)) Q E s := by
  have hT : s.TypeIs (.ref it) "callable_iterator" := ⟨_, hit, rfl⟩
  refine wpAny_pyIter_slot hT ci_self (wpAny_call_entry ci_self hT ci_entryS ?_ (ci_argsS _))
  show wpAny _ _ (ret (.ref it)) _ _ s
  exact wpAny_pure ⟨_, rfl, "callable_iterator", _, hT, ci_next.lookup, h⟩
theorem wpAny_callBorrowed {M : Model} {f : Value} {pos : List Value} {Q : Value → Shared → Prop}
    (hc : codeAny M A (.call f ⟨pos, []⟩) (fun r s' => match r with | .ok (.ret v) => Q v s' | .ok _ => False | .error e => E e s') s) : wpAny M A (callBorrowed f pos) Q E s := fun Γ p hΓ => by
  have e : Sem.wp M Γ (callBorrowed f pos) (fun a _ s' => Q a s') (fun e _ s' => E e s') p s =
      wpCode M (Γ.enter (.call f ⟨pos, []⟩) none p) (fun r s' => match r with | .ok (.ret v) => Q v s' | .ok _ => False | .error e => E e s') p s := by
    unfold callBorrowed
    rw [Sem.wp_call]
    congr 1
    funext r s'
    cases r with
    | error e => rfl
    | ok f => cases f <;> rfl
  exact e ▸ hc _ p rfl (hΓ.enter _ none p (by intro x; cases x))
theorem borrows_method {q f : Addr} {self : Value} {oc : Value} {od : Option Addr} {fd : FuncData} {sl : Array (Option Value)} {Q : Bool → Shared → Prop} (hq : s.heap.get? q = some (methodObj (.ref f) self)) (hf : s.heap.get? f = some ⟨oc, od, .func fd, sl⟩) (h : Q true s) :
    wpAny (model prog w) A (borrowsExactly (.ref q)) Q E s := by
  unfold borrowsExactly
  refine wpAny_bind (wpAny_load hq ?_)
  dsimp only
  refine wpAny_ite ?_
  refine wpAny_bind (wpAny_load hf ?_)
  exact wpAny_pure h
theorem ci_next_rule {it q f x : Addr} {ts : Tok} {oc : Value} {od : Option Addr} {fd : FuncData} {sl : Array (Option Value)} {Q : Option Value → Shared → Prop} (hh : A.handled = none)
    (hit : s.heap.get? it = some (ciObj q ts)) (hq : s.heap.get? q = some (methodObj (.ref f) (.ref x))) (hf : s.heap.get? f = some ⟨oc, od, .func fd, sl⟩)
    (h : codeAny (model prog w) A.in1 (.call (.ref f) ⟨[.ref x], []⟩) (fun r s' => ∃ l u, r = .ok (.ret (.str (sx l) u)) ∧ s'.heap.get? it = some (ciObj q ts) ∧ s'.heap.get? q = some (methodObj (.ref f) (.ref x)) ∧ s'.heap.get? f = some ⟨oc, od, .func fd, sl⟩ ∧
      (l ≠ [] → Q (some (.str (sx l) u)) s') ∧ (l = [] → ∀ h', Heap.ExtBut it s'.heap h' → Q none { s' with heap := h' })) s) :
    wpAny (model prog w) A (pyNext (.ref it)) Q E s := by
  have hT : s.TypeIs (.ref it) "callable_iterator" := ⟨_, hit, rfl⟩
  unfold pyNext
  refine wpAny_bind (wpAny_attempt (wpAny_callSpecial?_slot (name := PySem.Str.ofString "__next__") hT ci_next (wpAny_call_entry ci_next hT ci_entry ?_ (ci_args _))))
  show wpAny _ _ (Builtin.«callable_iterator.__next__» ⟨[.ref it], []⟩) _ _ _
  unfold Builtin.«callable_iterator.__next__»
  refine wpAny_bind (wpAny_of_eq (a := (.ref it, [])) (by rfl) ?_)
  dsimp only
  refine wpAny_bind (wpAny_field hit rfl (x := .bool false) rfl ?_)
  refine wpAny_ite (KBy.ite_no (by decide) ?_)
  refine wpAny_bind (wpAny_field hit rfl (x := .ref q) rfl ?_)
  unfold callOutOfASlot
  refine wpAny_bind (wpAny_attempt (wpAny_bind (borrows_method hq hf ?_)))
  rw [if_pos rfl]
  refine wpAny_callBorrowed (method_call hq (codeAny_mono h fun r s' hr => ?_))
  obtain ⟨l, u, rfl, hit', hq', hf', hsome, hnone⟩ := hr
  dsimp only
  refine wpAny_bind (wpAny_field hit' rfl (x := .bool false) rfl ?_)
  refine wpAny_ite (KBy.ite_no (by decide) ?_)
  refine wpAny_bind (wpAny_field hit' rfl (x := .str (Str.ofString "") ts) rfl ?_)
  refine wpAny_bind (wpAny_holding (eqBool_str ?_))
  by_cases hl : l = []
  · subst hl
    rw [show (Str.ofString "" == sx []) = true by decide]
    refine wpAny_ite (KBy.ite_no (by decide) ?_)
    refine wpAny_bind (wpAny_rule ?_)
    show wpAny _ _ ((field (.ref it) 0 >>= fun v => slotLetsGo "callable_iterator.__next__" v _ >>= fun _ => setField (.ref it) 0 .none >>= fun _ => setField (.ref it) 1 .none >>= fun _ => setField (.ref it) 2 (.bool true)) >>= fun _ => Builtin.SmallTypes.stopIteration) _ _ _
    refine wpAny_bind (wpAny_bind (wpAny_field hit' rfl (x := .ref q) rfl ?_))
    unfold slotLetsGo
    refine wpAny_bind (wpAny_bind (borrows_method hq' hf' ?_))
    rw [if_pos rfl]
    refine wpAny_pure ?_
    refine wpAny_bind (wpAny_setField_rec hit' (by simp) fun h₁ e₁ b₁ => ?_)
    refine wpAny_bind (wpAny_setField_rec e₁ (by simp) fun h₂ e₂ b₂ => ?_)
    refine wpAny_setField_rec e₂ (by simp) fun h₃ e₃ b₃ => ?_
    show wpAny _ _ (newExc (.type "StopIteration") [] >>= _) _ _ _
    refine wpAny_bind ?_
    simp only [newExc, newTuple]
    refine wpAny_bind (wpAny_newObj_type ?_ (by size_fits))
    refine wpAny_bind (m := firstArgMember _ _) (wpAny_of_eq (a := Value.none) (by first | rfl | (simp only [firstArgMember]; rfl)) ?_)
    refine wpAny_newObj_type ?_ (by size_fits)
    simp only [raiseNew]
    refine wpAny_bind (wpAny_handled ?_)
    rw [show A.in1.handled = none from hh]
    refine wpAny_bind (wpAny_pure (wpAny_throw ?_))
    refine wpAny_bind (wpAny_isInstance (T := "StopIteration") (b := true) ⟨_, Heap.get?_push_size _ rfl, rfl⟩ isSubtype_stop ?_)
    exact wpAny_pure (hnone rfl _ ((((b₁.extBut.trans b₂.extBut).trans b₃.extBut).push _).push _))
  · have hne : (Str.ofString "" == sx l) = false := by
      rw [beq_eq_false_iff_ne]
      intro e
      have : (Str.ofString "").cps.toList = (sx l).cps.toList := by rw [e]
      exact hl this.symm
    rw [hne]
    refine wpAny_ite ?_
    rw [if_pos (by decide)]
    exact wpAny_pure ⟨_, rfl, wpAny_pure (hsome hl)⟩
end
end Mine
end

section
open PySem PySem.W PySem.Calls PyProof.Rows PySem.SeqAt
set_option Elab.async false
set_option maxRecDepth 100000
namespace Mine
section
variable {α : Type} [DecidableEq α] {prog : Program} {w : World} {A : Around} {E : Value → Shared → Prop} {s : Shared} {a b : Addr} {vs us : List Value} {xs ys : List α} {Q : Value → Shared → Prop}
theorem allEq_of (h : xs.length = ys.length) : (List.range xs.length).all (fun j => decide (xs[j]? = ys[j]?)) = decide (xs = ys) := by
  rw [Bool.eq_iff_iff, List.all_eq_true, decide_eq_true_iff]
  constructor
  · intro k
    refine List.ext_getElem? fun j => ?_
    by_cases hj : j < xs.length
    · exact of_decide_eq_true (k j (List.mem_range.mpr hj))
    · rw [List.getElem?_eq_none (Nat.le_of_not_lt hj), List.getElem?_eq_none (by omega)]
  · rintro rfl j _
    exact decide_eq_true rfl
theorem eq_lists (hl : s.heap.IsList a vs.toArray) (hb : s.heap.IsList b us.toArray) (h1 : vs.length = xs.length) (h2 : us.length = ys.length) (hu : A.units < cLine)
    (he : ∀ j (h1 : j < vs.length) (h2 : j < us.length), EqAt A.in1 s vs[j] us[j] (decide (xs[j]? = ys[j]?))) (h : Q (.bool (decide (xs = ys))) s) : wpAny (model prog w) A (compareOp .Eq (.ref a) (.ref b)) Q E s := by
  by_cases hn : xs.length = ys.length
  · refine eq_listAt hl hb (by show vs.length = us.length; omega) hu (e := fun j => decide (xs[j]? = ys[j]?)) he ?_
    rw [show vs.toArray.size = xs.length from h1, allEq_of hn]; exact h
  · refine eq_list_lengthsAt hl hb (by rw [bne_iff_ne]; show vs.length ≠ us.length; omega) hu ?_
    rw [decide_eq_false (fun e => hn (by rw [e]))] at h; exact h
theorem ne_lists (hl : s.heap.IsList a vs.toArray) (hb : s.heap.IsList b us.toArray) (h1 : vs.length = xs.length) (h2 : us.length = ys.length) (hu : A.units < cLine)
    (he : ∀ j (h1 : j < vs.length) (h2 : j < us.length), EqAt A.in1 s vs[j] us[j] (decide (xs[j]? = ys[j]?))) (h : Q (.bool (!decide (xs = ys))) s) : wpAny (model prog w) A (compareOp .NotEq (.ref a) (.ref b)) Q E s := by
  by_cases hn : xs.length = ys.length
  · refine RcNeAt.lists hl hb (by show vs.length = us.length; omega) hu (e := fun j => decide (xs[j]? = ys[j]?)) he prog w E Q ?_
    rw [show vs.toArray.size = xs.length from h1, allEq_of hn]; exact h
  · refine RcNeAt.lists_lengths hl hb (by rw [bne_iff_ne]; show vs.length ≠ us.length; omega) hu prog w E Q ?_
    rw [decide_eq_false (fun e => hn (by rw [e]))] at h; exact h
end
theorem strs_get : ∀ {vs : List Value} {ts : List Str}, StrsAre vs ts → ∀ j (h : j < vs.length), ∃ y t, ts[j]? = some y ∧ vs[j] = .str y t
  | _, _, .cons y t r, 0, _ => ⟨y, t, rfl, rfl⟩
  | _, _, .cons y t r, j + 1, h => strs_get r j (Nat.lt_of_succ_lt_succ h)
theorem byts_get : ∀ {vs : List Value} {ts : List (List UInt8)}, BytesAre vs ts → ∀ j (h : j < vs.length), ∃ y t, ts[j]? = some y ∧ vs[j] = .bytes y.toArray t
  | _, _, .cons y t r, 0, _ => ⟨y, t, rfl, rfl⟩
  | _, _, .cons y t r, j + 1, h => byts_get r j (Nat.lt_of_succ_lt_succ h)
theorem EqAt.bytes {A : Around} {s : Shared} (x y : List UInt8) (t u : Tok) : EqAt A s (.bytes x.toArray t) (.bytes y.toArray u) (x == y) := fun prog w E Q h => by
  unfold eqBool
  refine wpAny_holding ?_
  refine wpAny_ite_split (fun hab => ?_) (fun _ => ?_)
  · have e := eq_of_beq hab
    injection e with e1 e2
    have e3 : x = y := by simpa using e1
    rw [e3, beq_self_eq_true] at h
    exact wpAny_bind (wpAny_rule (wpAny_pure h))
  · exact wpAny_bind (eq_bytes (wpAny_truthy_bool h))
section
variable {prog : Program} {w : World} {A : Around} {E : Value → Shared → Prop} {s : Shared} {a b : Addr} {vs us : List Value} {Q : Value → Shared → Prop}
theorem strs_at {xs ys : List Str} (hv : StrsAre vs xs) (hw : StrsAre us ys) (j) (h1 : j < vs.length) (h2 : j < us.length) : EqAt A s vs[j] us[j] (decide (xs[j]? = ys[j]?)) := by
  obtain ⟨x, t, e1, e2⟩ := strs_get hv j h1
  obtain ⟨y, u, e3, e4⟩ := strs_get hw j h2
  rw [e1, e2, e3, e4, show decide (some x = some y) = (x == y) by rw [Bool.eq_iff_iff, decide_eq_true_iff, beq_iff_eq, Option.some.injEq]]
  exact EqAt.str_str x t y u
theorem byts_at {xs ys : List (List UInt8)} (hv : BytesAre vs xs) (hw : BytesAre us ys) (j) (h1 : j < vs.length) (h2 : j < us.length) : EqAt A s vs[j] us[j] (decide (xs[j]? = ys[j]?)) := by
  obtain ⟨x, t, e1, e2⟩ := byts_get hv j h1
  obtain ⟨y, u, e3, e4⟩ := byts_get hw j h2
  rw [e1, e2, e3, e4, show decide (some x = some y) = (x == y) by rw [Bool.eq_iff_iff, decide_eq_true_iff, beq_iff_eq, Option.some.injEq]]
  exact EqAt.bytes x y t u
theorem eq_strsL {xs ys : List Str} (hl : s.heap.IsList a vs.toArray) (hb : s.heap.IsList b us.toArray) (hv : StrsAre vs xs) (hw : StrsAre us ys) (hu : A.units < cLine) (h : Q (.bool (decide (xs = ys))) s) : wpAny (model prog w) A (compareOp .Eq (.ref a) (.ref b)) Q E s :=
  eq_lists hl hb hv.length hw.length hu (strs_at hv hw) h
theorem ne_strsL {xs ys : List Str} (hl : s.heap.IsList a vs.toArray) (hb : s.heap.IsList b us.toArray) (hv : StrsAre vs xs) (hw : StrsAre us ys) (hu : A.units < cLine) (h : Q (.bool (!decide (xs = ys))) s) : wpAny (model prog w) A (compareOp .NotEq (.ref a) (.ref b)) Q E s :=
  ne_lists hl hb hv.length hw.length hu (strs_at hv hw) h
theorem eq_bytsL {xs ys : List (List UInt8)} (hl : s.heap.IsList a vs.toArray) (hb : s.heap.IsList b us.toArray) (hv : BytesAre vs xs) (hw : BytesAre us ys) (hu : A.units < cLine) (h : Q (.bool (decide (xs = ys))) s) : wpAny (model prog w) A (compareOp .Eq (.ref a) (.ref b)) Q E s :=
  eq_lists hl hb hv.length hw.length hu (byts_at hv hw) h
theorem ne_bytsL {xs ys : List (List UInt8)} (hl : s.heap.IsList a vs.toArray) (hb : s.heap.IsList b us.toArray) (hv : BytesAre vs xs) (hw : BytesAre us ys) (hu : A.units < cLine) (h : Q (.bool (!decide (xs = ys))) s) : wpAny (model prog w) A (compareOp .NotEq (.ref a) (.ref b)) Q E s :=
  ne_lists hl hb hv.length hw.length hu (byts_at hv hw) h
end
end Mine
end

section
open PySem PySem.W PySem.Calls PyProof.Rows PySem.MeetsSeq
set_option Elab.async false
set_option maxRecDepth 100000
set_option maxHeartbeats 4000000
set_option linter.unusedVariables false
namespace Mine
/-- a pair of rows -/
noncomputable abbrev tupB (b : List UInt8) (t : Tok) (c : List UInt8) (u : Tok) : Obj := { cls := .type "tuple", data := .seq #[.bytes b.toArray t, .bytes c.toArray u] }
theorem oneLt_bytes {prog : Program} {w : World} {A : Around} {E : Value → Shared → Prop} {s : Shared} {b c : Array UInt8} {t u : Tok} {o : Bool} {Q : Bool → Shared → Prop} (h : Q (Builtin.Bytes.order b.toList c.toList == .lt) s) : wpAny (model prog w) A (oneLt' o (.bytes b t) (.bytes c u)) Q E s := by
  cases o with
  | false => exact kat_one _ _ (cmp_ofLt (ltGives_bytes b c t u prog w A E s _ h))
  | true =>
    rw [oneLt'_eq]
    simp only [if_true]
    refine wpAny_bind (wpAny_cRoomFor_byValue rfl ?_)
    refine wpAny_bind (wpAny_callSpecialIfBound?_slot (typeIs_bytes s b t) slot_bytes_lt (wpAny_call_entry slot_bytes_lt (typeIs_bytes s b t) entry_bytes_lt ?_ (args_bytes_lt_2 _ _)))
    show wpAny _ _ (isInstance (.bytes c u) (.type "bytes") >>= fun r => _) _ _ s
    refine wpAny_bind (wpAny_isInstance (typeIs_bytes s c u) F.sub_bytes_bytes ?_)
    exact wpAny_pure ⟨_, rfl, wpAny_truthy_bool h⟩
theorem kasWp_ends {α : Type} {N : Nat} {cmp : Nat → Nat → Bool} {ask : Nat → Nat → (Bool → Shared → Prop) → Shared → Prop} {P : α → Prop} {Q : α → Shared → Prop} {s : Shared}
    (ha : ∀ i j C, i < N → j < N → C (cmp i j) s → ask i j C s) (hq : ∀ a, P a → Q a s) : ∀ (t : KasT α), Ends N cmp t P → t.kasWp ask Q s
  | .ret _, h => hq _ h
  | .ask i j k, h => ha i j _ h.1 h.2.1 (kasWp_ends ha hq (k _) h.2.2)
theorem sorted_pairs {w : World} {A : Around} {E : Value → Shared → Prop} {s : Shared} {g : Heap} {L l : Addr} {m : Str → Option Value} {news : List (Addr × Obj)} {its : List Value} {n : Nat} {key : Value → PB} {Q : Value → Shared → Prop}
    (F : Fr g L s.heap m) (N : News g L s.heap news) (hl : (l, listOf its.toArray n) ∈ news) (hits : ∀ v ∈ its, ∃ a t u, v = .ref a ∧ (a, tupB (key v).1 t (key v).2 u) ∈ news) (h2 : 2 ≤ its.length) (h64 : its.length < 64)
    (h : ∀ D n' h' (out : List Value), Fr g L h' m → News g L h' ((D, listOf out.toArray n') :: news) → (∀ q ∈ news, q.1 < D) → out.Perm its → (out.map key).Pairwise (fun a b => plt b a = false) → Q (.ref D) { s with heap := h' }) :
    wpAny (model PP w) A (call (.builtin "sorted") [.ref l]) Q E s := by
  refine kat_sorted F N (News.isList N hl) h2 h64 ?_
  intro D e1 h' F' N' hlt
  have hobj : ∀ v ∈ its, ∃ a t u, v = .ref a ∧ h'.get? a = some (tupB (key v).1 t (key v).2 u) := by
    intro v hv
    obtain ⟨a, t, u, e, hm⟩ := hits v hv
    exact ⟨a, t, u, e, (N' _ (.tail _ hm)).1⟩
  obtain ⟨fs, hfs, hfl, hfb⟩ : ∃ fs, KatTups h' its fs ∧ fs.length = its.length ∧ ∀ v ∈ fs, ∃ b t, v = .bytes b t := by
    clear h hits N' F' hlt h2 h64 hl
    induction its with
    | nil => exact ⟨[], .nil, rfl, fun v hv => nomatch hv⟩
    | cons v r ih =>
      obtain ⟨fs, e1, e2, e3⟩ := ih fun v hv => hobj v (.tail _ hv)
      obtain ⟨a, t, u, rfl, eo⟩ := hobj v (.head _)
      refine ⟨.bytes (key (.ref a)).1.toArray t :: fs, .cons eo rfl rfl rfl e1, by simp [e2], fun v hv => ?_⟩
      (revert v; refine fmc ?_ fun v hv => ?_)
      · exact ⟨_, _, rfl⟩
      · exact e3 v hv
  refine kat_kind (T := .type "bytes") hfs (by omega) (fun v hv => ?_) (by decide) ?_
  · obtain ⟨b, t, rfl⟩ := hfb v hv
    exact Looks.of_pure rfl
  show (kas_sort its.length).kasWp _ _ _
  refine kasWp_ends (N := its.length) (cmp := qcmp OP (fun i => key (its.getD i Value.none))) (fun i j C hi hj hC => ?_) (fun p hp => ?_) _ (sort_ends (by omega))
  · unfold kas_ask
    have hi' : its.getD i Value.none ∈ its := by rw [List.getD_eq_getElem?_getD, List.getElem?_eq_getElem hi]; exact List.getElem_mem hi
    have hj' : its.getD j Value.none ∈ its := by rw [List.getD_eq_getElem?_getD, List.getElem?_eq_getElem hj]; exact List.getElem_mem hj
    have hC' : C (plt (key (its.getD i Value.none)) (key (its.getD j Value.none))) _ := hC
    obtain ⟨a, ta, ua, ea, ha⟩ := hobj _ hi'
    obtain ⟨b, tb, ub, eb, hb⟩ := hobj _ hj'
    rw [ea, eb] at hC' ⊢
    rw [ea] at ha
    rw [eb] at hb
    generalize key (.ref a) = ka at hC' ha
    generalize key (.ref b) = kb at hC' hb
    refine kat_lt ha rfl hb rfl ?_
    refine kat_cons (eqGives_bytes _ _ _ _ _ _ _ _ _ _ ?_)
    unfold plt at hC'
    by_cases e1 : ka.1 = kb.1
    · rw [if_pos e1] at hC'
      rw [show decide (ka.1.toArray.toList = kb.1.toArray.toList) = true from decide_eq_true e1]
      refine kat_yes (kat_cons (eqGives_bytes _ _ _ _ _ _ _ _ _ _ ?_))
      by_cases e2 : ka.2 = kb.2
      · rw [e2, blt_irrefl] at hC'
        rw [show decide (ka.2.toArray.toList = kb.2.toArray.toList) = true from decide_eq_true e2]
        exact kat_yes (kat_nil (by simpa using hC'))
      · rw [show decide (ka.2.toArray.toList = kb.2.toArray.toList) = false from decide_eq_false e2]
        refine kat_no (oneLt_bytes ?_)
        rw [order_blt]; exact hC'
    · rw [if_neg e1] at hC'
      rw [show decide (ka.1.toArray.toList = kb.1.toArray.toList) = false from decide_eq_false e1]
      refine kat_no (oneLt_bytes ?_)
      rw [order_blt]; exact hC'
  · refine KasFin.intro F' N' (UpdF.head fun q hq => Nat.ne_of_lt (hlt q hq)) fun h₂ c F₂ N₂ => ?_
    refine h D c h₂ _ F₂ N₂ hlt ?_ ?_
    · have e : its = (List.range its.length).map fun i => its.getD i Value.none := by
        apply List.ext_getElem
        · simp
        · intro i h1 h2
          simp [h1]
      conv => rhs; rw [e]
      exact hp.1.perm.map _
    · have hsz : p.toList.length = its.length := by rw [Array.length_toList, hp.1.size]
      rw [List.map_map]
      refine List.pairwise_iff_getElem.mpr fun i j hi hj hij => ?_
      have hi' : i < p.size := by simpa using hi
      have hj' : j < p.size := by simpa using hj
      have hx : ∀ k (hk : k < p.size), X OP (fun i => key (its.getD i Value.none)) p k = key (its.getD p[k] Value.none) := fun k hk => by
        unfold X; simp [Array.getD, hk]; rfl
      have := hp.2 i j (by omega) (by rw [← hp.1.size]; exact hj')
      rw [hx i hi', hx j hj'] at this
      simp only [List.getElem_map, Function.comp, Array.getElem_toList]
      exact this
theorem best_bytes (rows : List (List UInt8)) : ∀ k, argBest (fun i j => blt (rows.getD i []) (rows.getD j [])) k ≤ k ∧ ∀ j, j ≤ k → blt (rows.getD j []) (rows.getD (argBest (fun i j => blt (rows.getD i []) (rows.getD j [])) k) []) = false
  | 0 => ⟨Nat.le_refl _, fun j hj => by rw [show j = 0 by omega]; exact blt_irrefl _⟩
  | k + 1 => by
    obtain ⟨h1, h2⟩ := best_bytes rows k
    simp only [argBest]
    split
    · rename_i hc
      refine ⟨Nat.le_refl _, fun j hj => ?_⟩
      rcases Nat.lt_or_ge j (k + 1) with hlt | hge
      · cases e : blt (rows.getD j []) (rows.getD (k + 1) []) with
        | false => rfl
        | true => have := blt_trans _ _ _ e hc; rw [h2 j (by omega)] at this; cases this
      · rw [show j = k + 1 by omega]; exact blt_irrefl _
    · rename_i hc
      refine ⟨by omega, fun j hj => ?_⟩
      rcases Nat.lt_or_ge j (k + 1) with hlt | hge
      · exact h2 j (by omega)
      · rw [show j = k + 1 by omega]; exact Bool.eq_false_iff.mpr hc
theorem bytes_getD {vs : List Value} {rows : List (List UInt8)} (h : BytesAre vs rows) {i : Nat} (hi : i < rows.length) : ∃ t, vs[i]? = some (.bytes (rows.getD i []).toArray t) := by
  obtain ⟨t, e⟩ := h.get i (rows[i]) (by simp)
  exact ⟨t, by rw [e]; simp [hi]⟩
theorem min_bytes {w : World} {A : Around} {E : Value → Shared → Prop} {s : Shared} {g : Heap} {L l : Addr} {m : Str → Option Value} {news : List (Addr × Obj)} {vs : List Value} {n : Nat} {rows : List (List UInt8)} {Q : Value → Shared → Prop}
    (hh : A.handled = none) (F : Fr g L s.heap m) (N : News g L s.heap news) (hm : (l, listOf vs.toArray n) ∈ news) (hb : BytesAre vs rows) (hne : 0 < rows.length)
    (h : ∀ h' t tk, Fr g L h' m → News g L h' news → Q (.bytes (minB rows).toArray t) { s with heap := h', toks := tk }) : wpAny (model PP w) A (call (.builtin "min") [.ref l]) Q E s := by
  have hl := News.isList N hm
  have hvl : vs.length = rows.length := hb.length
  have hlt : l < s.heap.objs.size := by obtain ⟨_, e, _⟩ := hl; exact Heap.lt_size e
  refine call_min_walk (wpAny_pyIter_list hl ?_)
  refine ⟨_, _, _, _, _, _, (fun i j => blt (rows.getD i []) (rows.getD j [])), rfl, Walks.list (A := A.in1) hh _ l (Nat.ne_of_lt hlt) vs.toArray, ⟨⟨_, Heap.get?_push_size _ rfl, rfl, rfl⟩, hl.push _⟩, fun b hb => ?_, by simp; omega, ?_, fun v h' tk hP hk => ?_⟩
  · show b < (s.heap.push _).objs.size
    rw [Heap.size_push]
    (revert b; refine fmc ?_ fun b hb => ?_)
    · exact Nat.lt_succ_self _
    · (revert b; refine fms ?_); exact Nat.lt_succ_of_lt hlt
  · intro i j vi vj s Q E hi hj hQ
    have hi' : vs[i]? = some vi := by simpa using hi
    have hj' : vs[j]? = some vj := by simpa using hj
    have li : i < rows.length := by rw [← hvl]; exact (List.getElem?_eq_some_iff.mp hi').1
    have lj : j < rows.length := by rw [← hvl]; exact (List.getElem?_eq_some_iff.mp hj').1
    obtain ⟨ti, e1⟩ := bytes_getD hb li
    obtain ⟨tj, e2⟩ := bytes_getD hb lj
    rw [e1] at hi'; rw [e2] at hj'
    cases hi'; cases hj'
    refine ltGives_bytes _ _ _ _ _ _ _ _ _ _ ?_
    rw [order_blt]; exact hQ
  · obtain ⟨h1, h2⟩ := best_bytes rows (vs.toArray.size - 1)
    generalize argBest (fun i j => blt (rows.getD i []) (rows.getD j [])) (vs.toArray.size - 1) = b at h1 h2 hP
    rw [List.size_toArray] at h1 h2
    have lb : b < rows.length := by omega
    obtain ⟨t, e⟩ := bytes_getD hb lb
    have hv : vs[b]? = some v := by simpa using hP
    rw [e] at hv; cases hv
    have : rows.getD b [] = minB rows := minB_is (by rw [List.getD_eq_getElem?_getD, List.getElem?_eq_getElem lb]; exact List.getElem_mem lb) fun a ha => by
      obtain ⟨j, hj, rfl⟩ := List.mem_iff_getElem.mp ha
      have := h2 j (by omega)
      rw [List.getD_eq_getElem?_getD, List.getElem?_eq_getElem hj] at this
      exact this
    rw [this]
    exact h h' t tk (F.grownK (old_kept hk)) (N.grown (old_kept hk))
end Mine
end
end

section
namespace Mine
theorem s13 : Stop (subscriptTail a b (Value.str (sx c) d) e) := trivial
theorem s14 : Stop (getMethod (Value.ref a) (PySem.Str.ofString "read") b) := trivial
theorem s15 : Stop (callWith a (Prod.fst (Value.ref b, c)) d e f) := trivial
theorem s16 : Stop (setAttr (Value.ref a) b c) := trivial
theorem s17 : Stop (call (Value.type a) b c) := trivial
theorem s18 : Stop (exec (Stmt.FunctionDef a b c d e f g h i j) k) := trivial
theorem s19 : Stop (eval (Expr.Lambda a b c d) e) := trivial
theorem s20 : Stop (eval (Expr.Name a b) (envX c d e f g (h :: i))) := trivial
theorem s21 : Stop (call (Value.builtin "list.pop") a b) := trivial
theorem s22 : Stop (isTrue (Expr.Compare a b [Expr.List c d] e) f g) := trivial
theorem s23 : Stop (call (Value.builtin "min") a b) := trivial
theorem s24 : Stop (call (Value.builtin "sorted") a b) := trivial
theorem s25 : Stop (compareOp a (Value.ref b) (Value.ref c)) := trivial
theorem s26 : Stop (binaryOp a (Value.ref b) (Value.int c d)) := trivial
end Mine
end
local macro_rules | `(tactic| walk_at "eval Name") => `(tactic| (k_here; (with_reducible show wpAny _ _ (eval (Expr.Name _ _) (compEnvC _ _ _ _)) _ _ _); first | refine ld_blt (by k_asm) (by k_asm) (by with_reducible assumption) (by k_is) (by boot_by_name) (by decide) ?_ | refine ld_glb (by k_asm) (by k_asm) (by with_reducible assumption) (by k_is) ?_))
section
local macro_rules | `(tactic| omega) => `(tactic| first | exact kun (by assumption) (by rfl) | exact kun2 (by assumption) (by rfl) | exact kun3 (by assumption) (by rfl) | lia | omega (splitDisjunctions := true))
section
open PySem PySem.W PySem.Calls PyProof.Rows PySem.MeetsSeq
set_option Elab.async false
set_option maxRecDepth 100000
set_option maxHeartbeats 4000000
set_option linter.unusedVariables false
namespace Mine
theorem fillTx2 : hd.heap_1 = hd.heap_1 ∧ Challenge.rw_oy0121_01 = Challenge.rw_oy0121_01 := by k_fill; exact ⟨rfl, rfl⟩
noncomputable def octF (l : List Nat) : List UInt8 := l.map (·.toUInt8)
theorem octets_call {w : World} {dp un : Nat} {fr gd} {s : Shared} {h₀ : Heap} {l : List Nat} {t : Tok} {R : Result → Shared → Prop} (H : At w h₀ s []) (hdp : dp < 880) (hu : un < 8800) (hlen : l.length < 1000) (hl : ∀ c ∈ l, c < 256)
    (h : ∀ h' tk u, KeepBut [] s.heap h' → R (.ok (.ret (.bytes (octF l).toArray u))) { s with heap := h', toks := tk }) :
    codeAny (model PP w) (AA dp un fr gd) (.call (.ref 184) ⟨[.str (sx l) t], []⟩) R s := by
  refine enter (binds := [("word", .str (sx l) t)]) H (by k_is) (by k_is) (by show dp < 1000; omega) (BindsTo.of_eq rfl) (locs rfl) ?_ (by decide)
  intro p loose mg mb g L h₁ hg X T F N hlt
  k_fold
  (repeat' (first | (k_unfold; try dsimp only) | ((fail_if_success (with_reducible (refine stopAt ?_ ?_; rotate_left; first | exact s1 | exact s2 | exact s3 | exact s4 | exact s5 | exact s6 | exact s8 | exact s11 | exact s12 | exact s9 | exact s10 | exact s7))); (fail_if_success (with_reducible first | show LCg.CompSrc _ _ _ _ _ _ _ _ _ _ _ _ _ _ | show LCg.CompEnd _ _ _ _ _ _ _ _ _ _ _ _ _ _)); first | walk1 | (dsimp only; walk1))))
  refine comp_str (F₀ := F) (by with_unfolding_all rfl) (by decide) (by rfl) (by decide) (by rfl) ?_
  (repeat' (first | (k_unfold; try dsimp only) | ((fail_if_success (with_reducible (refine stopAt ?_ ?_; rotate_left; first | exact s1 | exact s2 | exact s3 | exact s4 | exact s5 | exact s6 | exact s8 | exact s11 | exact s12 | exact s9 | exact s10 | exact s7))); (fail_if_success (with_reducible first | show LCg.CompSrc _ _ _ _ _ _ _ _ _ _ _ _ _ _ | show LCg.CompEnd _ _ _ _ _ _ _ _ _ _ _ _ _ _)); first | walk1 | (dsimp only; walk1))))
  refine ⟨sx l, t, [], rfl, rfl, F, N, by show l.length ≤ _; rw [sizeLine_eq]; omega, fun g₁ => ?_⟩
  refine compRest_of (fun i ys news => news = [] ∧ IntsAre ys ((l.take i).map fun (c : Nat) => (c : Int))) ⟨rfl, .nil⟩ ?_ ?_
  · rintro i ys news v I oI C oC D m₂ h₅ tk₅ E' hi ⟨rfl, hys⟩ ⟨c, tc, hc, rfl⟩ hoC hm₂ F₅ N₅ hoff hne
    (repeat' (first | (k_unfold; try dsimp only) | ((fail_if_success (with_reducible (refine stopAt ?_ ?_; rotate_left; first | exact s1 | exact s2 | exact s3 | exact s4 | exact s5 | exact s6 | exact s8 | exact s11 | exact s12 | exact s9 | exact s10 | exact s7))); (fail_if_success (with_reducible first | show LCg.CompSrc _ _ _ _ _ _ _ _ _ _ _ _ _ _ | show LCg.CompEnd _ _ _ _ _ _ _ _ _ _ _ _ _ _)); first | walk1 | (dsimp only; walk1))))
    rename Fr _ _ _ _ => F₆
    refine CompEnd.mk' (news' := []) F₆ N₅ hoff trivial ⟨rfl, ?_⟩
    rw [List.take_add_one, show l[i]? = some c by simpa using hc, List.map_append]
    exact hys.append (.cons _ _ .nil)
  · rintro ys news ⟨rfl, hys⟩
    (repeat' (first | (k_unfold; try dsimp only) | ((fail_if_success (with_reducible (refine stopAt ?_ ?_; rotate_left; first | exact s1 | exact s2 | exact s3 | exact s4 | exact s5 | exact s6 | exact s8 | exact s11 | exact s12 | exact s9 | exact s10 | exact s7))); (fail_if_success (with_reducible first | show LCg.CompSrc _ _ _ _ _ _ _ _ _ _ _ _ _ _ | show LCg.CompEnd _ _ _ _ _ _ _ _ _ _ _ _ _ _)); first | walk1 | (dsimp only; walk1))))
    rename Fr _ _ _ _ => F₆
    rename News _ _ _ _ => N₆
    have hin : KBa.In (l.map fun (c : Nat) => (c : Int)) := by
      intro x hx
      obtain ⟨c, hc, rfl⟩ := List.mem_map.mp hx
      have := hl c hc
      omega
    rw [show (sx l).cps.size = l.length by simp, List.take_length] at hys
    refine KBa.make_K F₆ N₆ rfl (⟨_, (N₆ _ (.head _)).1, rfl, _, rfl⟩) hys hin (by rw [List.length_map]; omega) ?_
    intro h₇ t₇ k₇ F₇ N₇ _
    rw [show byteArr (l.map fun (c : Nat) => (c : Int)) = (octF l).toArray by unfold byteArr octF; rw [List.map_map]; rfl]
    exact h _ _ _ (fun b₁ o hb' e => F₇.keep b₁ o (hg ▸ hideAll_get _ e hb'))
end Mine
end

section
open PySem PySem.W PySem.Calls PyProof.Rows PySem.MeetsSeq
set_option Elab.async false
set_option maxRecDepth 100000
set_option maxHeartbeats 4000000
set_option linter.unusedVariables false
namespace Mine
theorem fillTx3 : hd.heap_1 = hd.heap_1 ∧ Challenge.rw_oy0121_01 = Challenge.rw_oy0121_01 := by k_fill; exact ⟨rfl, rfl⟩
noncomputable def esc1 (set : List Nat) (c : Nat) : List Nat := if c ∈ set then [92, c] else [c]
noncomputable def esc (set : List Nat) (l : List Nat) : List Nat := l.flatMap (esc1 set)
noncomputable def sepOf (k : Int) : List Nat := if k = 0 then [32] else if k = 1 then [10] else if k = 2 then [9, 32] else [13, 10]
noncomputable def spelledF (l : List Nat) (way : Int) : List Nat := if way.fmod 2 = 0 then [34] ++ esc [34, 92] l ++ [34] else esc [34, 92, 32, 10] l ++ sepOf ((way.fdiv 2).fmod 4)
theorem esc_len (set l : List Nat) : (esc set l).length ≤ 2 * l.length := by
  unfold esc
  rw [List.length_flatMap]
  exact sum_le (fun c => (esc1 set c).length) 2 l (fun c _ => by unfold esc1; split <;> simp)
theorem spelled_call {w : World} {dp un : Nat} {fr gd} {s : Shared} {h₀ : Heap} {l : List Nat} {t u : Tok} {way : Int} {R : Result → Shared → Prop} (H : At w h₀ s []) (hdp : dp < 880) (hu : un < 8800) (hlen : l.length < 1000)
    (h : ∀ h' tk u, KeepBut [] s.heap h' → R (.ok (.ret (.str (sx (spelledF l way)) u))) { s with heap := h', toks := tk }) :
    codeAny (model PP w) (AA dp un fr gd) (.call (.ref 194) ⟨[.str (sx l) t, .int way u], []⟩) R s := by
  refine enter (binds := [("word", .str (sx l) t), ("way", .int way u)]) H (by k_is) (by k_is) (by show dp < 1000; omega) (BindsTo.of_eq rfl) (locs rfl) ?_ (by decide)
  intro p loose mg mb g L h₁ hg X T F N hlt
  k_fold
  (repeat' (first | (k_unfold; try dsimp only) | ((fail_if_success (with_reducible (refine stopAt ?_ ?_; rotate_left; first | exact s1 | exact s2 | exact s3 | exact s4 | exact s5 | exact s6 | exact s8 | exact s11 | exact s12 | exact s9 | exact s10 | exact s7))); (fail_if_success (with_reducible first | show wpAny _ _ (binaryOp _ (Value.str (sx (List.flatMap _ _)) _) (Value.str _ _)) _ _ _ | show wpAny _ _ (binaryOp _ (Value.str (sx (_ ++ _)) _) (Value.str _ _)) _ _ _ | show LCg.CompSrc _ _ _ _ _ _ _ _ _ _ _ _ _ _ | show LCg.CompEnd _ _ _ _ _ _ _ _ _ _ _ _ _ _)); first | walk1 | (dsimp only; walk1))))
  · refine comp_str (F₀ := F) (by with_unfolding_all rfl) (by decide) (by rfl) (by decide) (by rfl) ?_
    (repeat' (first | (k_unfold; try dsimp only) | ((fail_if_success (with_reducible (refine stopAt ?_ ?_; rotate_left; first | exact s1 | exact s2 | exact s3 | exact s4 | exact s5 | exact s6 | exact s8 | exact s11 | exact s12 | exact s9 | exact s10 | exact s7))); (fail_if_success (with_reducible first | show wpAny _ _ (binaryOp _ (Value.str (sx (List.flatMap _ _)) _) (Value.str _ _)) _ _ _ | show wpAny _ _ (binaryOp _ (Value.str (sx (_ ++ _)) _) (Value.str _ _)) _ _ _ | show LCg.CompSrc _ _ _ _ _ _ _ _ _ _ _ _ _ _ | show LCg.CompEnd _ _ _ _ _ _ _ _ _ _ _ _ _ _)); first | walk1 | (dsimp only; walk1))))
    refine ⟨sx l, t, [], rfl, rfl, F, N, by show l.length ≤ _; rw [sizeLine_eq]; omega, fun g₁ => ?_⟩
    dsimp only
    refine compRest_of (fun i ys news => news = [] ∧ StrsAre ys ((l.take i).map fun c => sx (esc1 [34, 92] c))) ⟨rfl, .nil⟩ ?_ ?_
    · rintro i ys news v I oI C oC D m₂ h₅ tk₅ E' hi ⟨rfl, hys⟩ ⟨c, tc, hc, rfl⟩ hoC hm₂ F₅ N₅ hoff hne
      (repeat' (first | (k_unfold; try dsimp only) | ((fail_if_success (with_reducible (refine stopAt ?_ ?_; rotate_left; first | exact s1 | exact s2 | exact s3 | exact s4 | exact s5 | exact s6 | exact s8 | exact s11 | exact s12 | exact s9 | exact s10 | exact s7))); (fail_if_success (with_reducible first | show wpAny _ _ (binaryOp _ (Value.str (sx (List.flatMap _ _)) _) (Value.str _ _)) _ _ _ | show wpAny _ _ (binaryOp _ (Value.str (sx (_ ++ _)) _) (Value.str _ _)) _ _ _ | show LCg.CompSrc _ _ _ _ _ _ _ _ _ _ _ _ _ _ | show LCg.CompEnd _ _ _ _ _ _ _ _ _ _ _ _ _ _)); first | walk1 | (dsimp only; walk1))))
      · rename (_ : Bool) = true => hno
        have hno := occ_no hno
        refine CompEnd.mk' (news' := []) F₅ N₅ hoff trivial ⟨rfl, ?_⟩
        rw [List.take_add_one, show l[i]? = some c by simpa using hc, List.map_append]
        refine hys.append' ?_
        have e : esc1 [34, 92] c = [c] := if_neg hno
        simp only [Option.toList, List.map_cons, List.map_nil, e]
        exact .cons _ _ .nil
      · rename (_ : Bool) = false => hyes
        have hyes := occ_yes hyes
        refine CompEnd.mk' (news' := []) F₅ N₅ hoff trivial ⟨rfl, ?_⟩
        rw [List.take_add_one, show l[i]? = some c by simpa using hc, List.map_append]
        refine hys.append' ?_
        have e : esc1 [34, 92] c = [92, c] := if_pos hyes
        simp only [Option.toList, List.map_cons, List.map_nil, e]
        rw [show Str.ofString "\\" ++ ⟨#[c]⟩ = sx [92, c] from sx_add [92] [c]]
        exact .cons _ _ .nil
    · rintro ys news ⟨rfl, hys⟩
      (repeat' (first | (k_unfold; try dsimp only) | ((fail_if_success (with_reducible (refine stopAt ?_ ?_; rotate_left; first | exact s1 | exact s2 | exact s3 | exact s4 | exact s5 | exact s6 | exact s8 | exact s11 | exact s12 | exact s9 | exact s10 | exact s7))); (fail_if_success (with_reducible first | show wpAny _ _ (binaryOp _ (Value.str (sx (List.flatMap _ _)) _) (Value.str _ _)) _ _ _ | show wpAny _ _ (binaryOp _ (Value.str (sx (_ ++ _)) _) (Value.str _ _)) _ _ _ | show LCg.CompSrc _ _ _ _ _ _ _ _ _ _ _ _ _ _ | show LCg.CompEnd _ _ _ _ _ _ _ _ _ _ _ _ _ _)); first | walk1 | (dsimp only; walk1))))
      rename Fr _ _ _ _ => F₆
      rename News _ _ _ _ => N₆
      rw [show (sx l).cps.size = l.length by simp, List.take_length] at hys
      rw [show (l.map fun c => sx (esc1 [34, 92] c)) = (l.map (esc1 [34, 92])).map sx by rw [List.map_map]; rfl] at hys
      refine join_listC (ys := (l.map (esc1 [34, 92])).map sx) ⟨_, (N₆ _ (.head _)).1, rfl, _, rfl⟩ hys (by decide) ?_ ?_
      · rw [List.map_map]
        have := sum_le (fun c => (sx c).length) 2 (l.map (esc1 [34, 92])) (fun x hx => by
          obtain ⟨c, _, rfl⟩ := List.mem_map.mp hx
          unfold esc1; split <;> simp [Str.length])
        simp only [List.length_map, Function.comp_def] at this ⊢
        omega
      intro t₇ k₇
      rw [glue_nil, ← List.flatMap_def]
      have he := esc_len [34, 92] l
      refine sadd (a := [34]) rfl rfl (by show 1 + (esc [34, 92] l).length ≤ _; omega) ?_
      intro t₈ k₈
      (repeat' (first | (k_unfold; try dsimp only) | ((fail_if_success (with_reducible (refine stopAt ?_ ?_; rotate_left; first | exact s1 | exact s2 | exact s3 | exact s4 | exact s5 | exact s6 | exact s8 | exact s11 | exact s12 | exact s9 | exact s10 | exact s7))); (fail_if_success (with_reducible first | show wpAny _ _ (binaryOp _ (Value.str (sx (List.flatMap _ _)) _) (Value.str _ _)) _ _ _ | show wpAny _ _ (binaryOp _ (Value.str (sx (_ ++ _)) _) (Value.str _ _)) _ _ _ | show LCg.CompSrc _ _ _ _ _ _ _ _ _ _ _ _ _ _ | show LCg.CompEnd _ _ _ _ _ _ _ _ _ _ _ _ _ _)); first | walk1 | (dsimp only; walk1))))
      refine sadd (b := [34]) rfl (by decide) (by show ([34] ++ esc [34, 92] l).length + 1 ≤ _; simp; omega) ?_
      intro t₉ k₉
      (repeat' (first | (k_unfold; try dsimp only) | ((fail_if_success (with_reducible (refine stopAt ?_ ?_; rotate_left; first | exact s1 | exact s2 | exact s3 | exact s4 | exact s5 | exact s6 | exact s8 | exact s11 | exact s12 | exact s9 | exact s10 | exact s7))); (fail_if_success (with_reducible first | show wpAny _ _ (binaryOp _ (Value.str (sx (List.flatMap _ _)) _) (Value.str _ _)) _ _ _ | show wpAny _ _ (binaryOp _ (Value.str (sx (_ ++ _)) _) (Value.str _ _)) _ _ _ | show LCg.CompSrc _ _ _ _ _ _ _ _ _ _ _ _ _ _ | show LCg.CompEnd _ _ _ _ _ _ _ _ _ _ _ _ _ _)); first | walk1 | (dsimp only; walk1))))
      rw [show [34] ++ List.flatMap (esc1 [34, 92]) l ++ [34] = spelledF l way from (if_pos (by assumption)).symm]
      exact h _ _ _ (fun b₁ o hb' e => F₆.keep b₁ o (hg ▸ hideAll_get _ e hb'))
  · refine comp_str (F₀ := F) (by with_unfolding_all rfl) (by decide) (by rfl) (by decide) (by rfl) ?_
    (repeat' (first | (k_unfold; try dsimp only) | ((fail_if_success (with_reducible (refine stopAt ?_ ?_; rotate_left; first | exact s1 | exact s2 | exact s3 | exact s4 | exact s5 | exact s6 | exact s8 | exact s11 | exact s12 | exact s9 | exact s10 | exact s7))); (fail_if_success (with_reducible first | show wpAny _ _ (binaryOp _ (Value.str (sx (List.flatMap _ _)) _) (Value.str _ _)) _ _ _ | show wpAny _ _ (binaryOp _ (Value.str (sx (_ ++ _)) _) (Value.str _ _)) _ _ _ | show LCg.CompSrc _ _ _ _ _ _ _ _ _ _ _ _ _ _ | show LCg.CompEnd _ _ _ _ _ _ _ _ _ _ _ _ _ _)); first | walk1 | (dsimp only; walk1))))
    refine ⟨sx l, t, [], rfl, rfl, F, N, by show l.length ≤ _; rw [sizeLine_eq]; omega, fun g₁ => ?_⟩
    dsimp only
    refine compRest_of (fun i ys news => news = [] ∧ StrsAre ys ((l.take i).map fun c => sx (esc1 [34, 92, 32, 10] c))) ⟨rfl, .nil⟩ ?_ ?_
    · rintro i ys news v I oI C oC D m₂ h₅ tk₅ E' hi ⟨rfl, hys⟩ ⟨c, tc, hc, rfl⟩ hoC hm₂ F₅ N₅ hoff hne
      (repeat' (first | (k_unfold; try dsimp only) | ((fail_if_success (with_reducible (refine stopAt ?_ ?_; rotate_left; first | exact s1 | exact s2 | exact s3 | exact s4 | exact s5 | exact s6 | exact s8 | exact s11 | exact s12 | exact s9 | exact s10 | exact s7))); (fail_if_success (with_reducible first | show wpAny _ _ (binaryOp _ (Value.str (sx (List.flatMap _ _)) _) (Value.str _ _)) _ _ _ | show wpAny _ _ (binaryOp _ (Value.str (sx (_ ++ _)) _) (Value.str _ _)) _ _ _ | show LCg.CompSrc _ _ _ _ _ _ _ _ _ _ _ _ _ _ | show LCg.CompEnd _ _ _ _ _ _ _ _ _ _ _ _ _ _)); first | walk1 | (dsimp only; walk1))))
      · rename (_ : Bool) = true => hno
        have hno := occ_no hno
        refine CompEnd.mk' (news' := []) F₅ N₅ hoff trivial ⟨rfl, ?_⟩
        rw [List.take_add_one, show l[i]? = some c by simpa using hc, List.map_append]
        refine hys.append' ?_
        have e : esc1 [34, 92, 32, 10] c = [c] := if_neg hno
        simp only [Option.toList, List.map_cons, List.map_nil, e]
        exact .cons _ _ .nil
      · rename (_ : Bool) = false => hyes
        have hyes := occ_yes hyes
        refine CompEnd.mk' (news' := []) F₅ N₅ hoff trivial ⟨rfl, ?_⟩
        rw [List.take_add_one, show l[i]? = some c by simpa using hc, List.map_append]
        refine hys.append' ?_
        have e : esc1 [34, 92, 32, 10] c = [92, c] := if_pos hyes
        simp only [Option.toList, List.map_cons, List.map_nil, e]
        rw [show Str.ofString "\\" ++ ⟨#[c]⟩ = sx [92, c] from sx_add [92] [c]]
        exact .cons _ _ .nil
    · rintro ys news ⟨rfl, hys⟩
      (repeat' (first | (k_unfold; try dsimp only) | ((fail_if_success (with_reducible (refine stopAt ?_ ?_; rotate_left; first | exact s1 | exact s2 | exact s3 | exact s4 | exact s5 | exact s6 | exact s8 | exact s11 | exact s12 | exact s9 | exact s10 | exact s7))); (fail_if_success (with_reducible first | show wpAny _ _ (binaryOp _ (Value.str (sx (List.flatMap _ _)) _) (Value.str _ _)) _ _ _ | show wpAny _ _ (binaryOp _ (Value.str (sx (_ ++ _)) _) (Value.str _ _)) _ _ _ | show LCg.CompSrc _ _ _ _ _ _ _ _ _ _ _ _ _ _ | show LCg.CompEnd _ _ _ _ _ _ _ _ _ _ _ _ _ _)); first | walk1 | (dsimp only; walk1))))
      rename Fr _ _ _ _ => F₆
      rename News _ _ _ _ => N₆
      rw [show (sx l).cps.size = l.length by simp, List.take_length] at hys
      rw [show (l.map fun c => sx (esc1 [34, 92, 32, 10] c)) = (l.map (esc1 [34, 92, 32, 10])).map sx by rw [List.map_map]; rfl] at hys
      refine join_listC (ys := (l.map (esc1 [34, 92, 32, 10])).map sx) ⟨_, (N₆ _ (.head _)).1, rfl, _, rfl⟩ hys (by decide) ?_ ?_
      · rw [List.map_map]
        have := sum_le (fun c => (sx c).length) 2 (l.map (esc1 [34, 92, 32, 10])) (fun x hx => by
          obtain ⟨c, _, rfl⟩ := List.mem_map.mp hx
          unfold esc1; split <;> simp [Str.length])
        simp only [List.length_map, Function.comp_def] at this ⊢
        omega
      intro t₇ k₇
      rw [glue_nil, ← List.flatMap_def]
      have he := esc_len [34, 92, 32, 10] l
      (repeat' (first | (k_unfold; try dsimp only) | ((fail_if_success (with_reducible (refine stopAt ?_ ?_; rotate_left; first | exact s1 | exact s2 | exact s3 | exact s4 | exact s5 | exact s6 | exact s8 | exact s11 | exact s12 | exact s9 | exact s10 | exact s7))); (fail_if_success (with_reducible first | show wpAny _ _ (binaryOp _ (Value.str (sx (List.flatMap _ _)) _) (Value.str _ _)) _ _ _ | show wpAny _ _ (binaryOp _ (Value.str (sx (_ ++ _)) _) (Value.str _ _)) _ _ _ | show LCg.CompSrc _ _ _ _ _ _ _ _ _ _ _ _ _ _ | show LCg.CompEnd _ _ _ _ _ _ _ _ _ _ _ _ _ _)); first | walk1 | (dsimp only; walk1))))
      rename Fr _ _ _ _ => F₇
      rename News _ _ _ _ => N₇
      have hk := Int.fmod_nonneg_of_pos (way.fdiv 2) (show (0 : Int) < 4 by decide)
      have hk' := Int.fmod_lt_of_pos (way.fdiv 2) (show (0 : Int) < 4 by decide)
      generalize hK : (way.fdiv 2).fmod 4 = kk at hk hk' ⊢
      have hpick : ∀ (t1 t2 t3 t4 : Tok), ∃ x t, [Value.str (Str.ofString " ") t1, Value.str (Str.ofString "\n") t2, Value.str (Str.ofString "\t ") t3, Value.str (Str.ofString "\r\n") t4][kk.toNat]? = some (.str x t) ∧ x = sx (sepOf kk) ∧ (sepOf kk).length ≤ 2 := by
        intro t1 t2 t3 t4
        rcases (show kk = 0 ∨ kk = 1 ∨ kk = 2 ∨ kk = 3 by omega) with e | e | e | e <;> subst e
        · exact ⟨_, _, rfl, by decide, by decide⟩
        · exact ⟨_, _, rfl, by decide, by decide⟩
        · exact ⟨_, _, rfl, by decide, by decide⟩
        · exact ⟨_, _, rfl, by decide, by decide⟩
      obtain ⟨x₈, t₈, hx₈, hxe, hxl⟩ := hpick _ _ _ _
      refine kba_turn (value' := .Name (Str.ofString "word") ⟨0, 0, 0, 0⟩) (by intro _; with_unfolding_all rfl) ?_
      refine item_ N₇ (.head _) hk hx₈ (by simp) ?_
      (repeat' (first | (k_unfold; try dsimp only) | ((fail_if_success (with_reducible (refine stopAt ?_ ?_; rotate_left; first | exact s1 | exact s2 | exact s3 | exact s4 | exact s5 | exact s6 | exact s8 | exact s11 | exact s12 | exact s9 | exact s10 | exact s7))); (fail_if_success (with_reducible first | show wpAny _ _ (binaryOp _ (Value.str (sx (List.flatMap _ _)) _) (Value.str _ _)) _ _ _ | show wpAny _ _ (binaryOp _ (Value.str (sx (_ ++ _)) _) (Value.str _ _)) _ _ _ | show LCg.CompSrc _ _ _ _ _ _ _ _ _ _ _ _ _ _ | show LCg.CompEnd _ _ _ _ _ _ _ _ _ _ _ _ _ _)); first | walk1 | (dsimp only; walk1))))
      refine sadd rfl hxe (by show (esc [34, 92, 32, 10] l).length + (sepOf kk).length ≤ _; omega) ?_
      intro t₉ k₉
      (repeat' (first | (k_unfold; try dsimp only) | ((fail_if_success (with_reducible (refine stopAt ?_ ?_; rotate_left; first | exact s1 | exact s2 | exact s3 | exact s4 | exact s5 | exact s6 | exact s8 | exact s11 | exact s12 | exact s9 | exact s10 | exact s7))); (fail_if_success (with_reducible first | show wpAny _ _ (binaryOp _ (Value.str (sx (List.flatMap _ _)) _) (Value.str _ _)) _ _ _ | show wpAny _ _ (binaryOp _ (Value.str (sx (_ ++ _)) _) (Value.str _ _)) _ _ _ | show LCg.CompSrc _ _ _ _ _ _ _ _ _ _ _ _ _ _ | show LCg.CompEnd _ _ _ _ _ _ _ _ _ _ _ _ _ _)); first | walk1 | (dsimp only; walk1))))
      rw [show List.flatMap (esc1 [34, 92, 32, 10]) l ++ sepOf kk = spelledF l way by rw [← hK]; exact (if_neg (by assumption)).symm]
      exact h _ _ _ (fun b₁ o hb' e => F₇.keep b₁ o (hg ▸ hideAll_get _ e hb'))
end Mine
end

section
open PySem PySem.W PySem.Calls PyProof.Rows PySem.MeetsSeq
set_option Elab.async false
set_option maxRecDepth 100000
set_option maxHeartbeats 4000000
set_option linter.unusedVariables false
namespace Mine
theorem fillWr : hd.heap_1 = hd.heap_1 ∧ Challenge.rw_oy0121_01 = Challenge.rw_oy0121_01 := by k_fill; exact ⟨rfl, rfl⟩
noncomputable def alph : List Nat := [65,66,67,68,69,70,71,72,73,74,75,76,77,78,79,80,81,82,83,84,85,86,87,88,89,90,97,98,99,100,101,102,103,104,105,106,107,108,109,110,111,112,113,114,115,116,117,118,119,120,121,122,48,49,50,51,52,53,54,55,56,57]
noncomputable def signsF (x y : UInt8) : List Nat := alph ++ [x.toNat] ++ [y.toNat]
noncomputable def wsp (b : List UInt8) : Int := (0 - (b.length : Int)).fmod 3
noncomputable def wcount (b : List UInt8) : Int := ((b.length : Int) + wsp b).fdiv 3 * 4
noncomputable def numF (b : List UInt8) : Int := (b.map fun z => (z.toNat : Int)).foldl (fun a z => a * 256 + z) 0
noncomputable def wnum (b : List UInt8) : Int := numF b * 256 ^ (wsp b).toNat
noncomputable def wsign (b : List UInt8) (x y : UInt8) (j : Nat) : Nat := (signsF x y).getD (((wnum b).fdiv (64 ^ (wcount b - 1 - (j : Int)).toNat)).fmod 64).toNat 0
noncomputable def wword (b : List UInt8) (x y : UInt8) : List Nat := (List.range (wcount b).toNat).map (wsign b x y)
noncomputable def writtenF (b : List UInt8) (x y : UInt8) : List Nat := (wword b x y).take (wcount b - wsp b).toNat ++ List.replicate (wsp b).toNat 61
theorem alph_is : Str.ofString "ABCDEFGHIJKLMNOPQRSTUVWXYZabcdefghijklmnopqrstuvwxyz0123456789" = sx alph := by decide
theorem pair_at {w : World} {A : Around} {E : Value → Shared → Prop} {s : Shared} {value slice : PySem.Expr} {x y : UInt8} {t ui : Tok} {k : Nat} (z : UInt8) {Q : Value → Shared → Prop} (hk : k < 2) (hz : [x, y].getD k 0 = z)
    (h : ∀ t' k', Q (.int (z.toNat : Int) t') { s with toks := k' })
    (hs : subscripted slice false (.bytes #[x, y] t) (.int (k : Int) ui) = operate [.bytes #[x, y] t, .int (k : Int) ui] (getItem (.bytes #[x, y] t) (.int (k : Int) ui)) := by with_unfolding_all rfl)
    (ht : ∀ v, letTemporaryGo value (.bytes #[x, y] t) v = pure () := by intro _; with_unfolding_all rfl) :
    wpAny (model PP w) A (subscriptTail value slice (.bytes #[x, y] t) (.int (k : Int) ui)) Q E s := by
  refine bitem (r := [x, y]) (by simp) (by simp) (by omega) (by simp; omega) ?_ hs ht
  intro t' k'
  rw [show (((k : Int) + (([x, y] : List UInt8).length : Int)) % (([x, y] : List UInt8).length : Int)).toNat = k by simp only [List.length_cons, List.length_nil]; omega, hz]
  exact h t' k'
theorem pchr {w : World} {A : Around} {E : Value → Shared → Prop} {s : Shared} {z : UInt8} {t : Tok} {Q : Value → Shared → Prop} (h : ∀ t k, Q (.str (sx [z.toNat]) t) { s with toks := k }) : wpAny (model PP w) A (call (.builtin "chr") [.int (z.toNat : Int) t]) Q E s := by
  refine chr_of_range (by omega) (by have := z.toNat_lt; omega) ?_
  rw [Int.toNat_natCast]
  exact h _ _
theorem numF_snoc (b : List UInt8) (z : UInt8) : numF (b ++ [z]) = numF b * 256 + (z.toNat : Int) := by
  unfold numF
  rw [List.map_append, List.foldl_append]
  rfl
theorem numF_in : ∀ (n : Nat) (b : List UInt8), b.length = n → 0 ≤ numF b ∧ numF b < 256 ^ n
  | 0, b, h => by rw [List.length_eq_zero_iff.mp h]; decide
  | n + 1, b, h => by
    rcases List.eq_nil_or_concat b with e | ⟨c, z, e⟩
    · rw [e] at h; simp at h
    · rw [List.concat_eq_append] at e
      subst e
      have := numF_in n c (by simpa using h)
      have hz := z.toNat_lt
      rw [numF_snoc, Int.pow_succ]
      omega
theorem numF_le (b : List UInt8) (h : b.length ≤ 6) : 0 ≤ numF b ∧ numF b < 281474976710656 := by
  have h1 := numF_in _ b rfl
  have e : ∀ k : Nat, (256 : Int) ^ k = ((256 ^ k : Nat) : Int) := fun k => by rw [Int.natCast_pow]; rfl
  have h2 : (256 : Nat) ^ b.length ≤ 256 ^ 6 := Nat.pow_le_pow_right (by decide) h
  rw [e] at h1
  rw [show (256 : Nat) ^ 6 = 281474976710656 by decide] at h2
  omega
theorem written_call {w : World} {dp un : Nat} {fr gd} {s : Shared} {h₀ : Heap} {b : List UInt8} {x y : UInt8} {t u : Tok} {R : Result → Shared → Prop} (H : At w h₀ s []) (hdp : dp < 880) (hu : un < 8800) (hlen : b.length ≤ 6)
    (h : ∀ h' tk u, KeepBut [] s.heap h' → R (.ok (.ret (.str (sx (writtenF b x y)) u))) { s with heap := h', toks := tk }) :
    codeAny (model PP w) (AA dp un fr gd) (.call (.ref 189) ⟨[.bytes b.toArray t, .bytes #[x, y] u], []⟩) R s := by
  refine enterC (binds := [("octets", .bytes b.toArray t), ("pair", .bytes #[x, y] u)]) H (by k_is) (by k_is) (by show dp < 1000; omega) (BindsTo.of_eq rfl) (by rfl) (by decide) ?_
  intro p loose mg mb g L h₁ tk₁ cells hg X T F N hC hlt'
  obtain ⟨oc, oc2, oc3, hoc, hcd, hcd2, hcd3⟩ := CellsAre.three hC
  subst hoc
  clear hC
  k_fold
  replace hcd := (show oc.data = .cell none from hcd)
  replace hcd2 := (show oc2.data = .cell none from hcd2)
  replace hcd3 := (show oc3.data = .cell none from hcd3)
  rw [List.append_nil] at N
  (repeat' (first | (k_unfold; try dsimp only) | ((fail_if_success (with_reducible (refine stopAt ?_ ?_; rotate_left; first | exact s13 | exact s1 | exact s2 | exact s3 | exact s4 | exact s5 | exact s6 | exact s8 | exact s11 | exact s12 | exact s9 | exact s10 | exact s7))); (fail_if_success (with_reducible first | show wpAny _ _ (binaryOp _ (Value.str (sx (List.take _ _)) _) (Value.str _ _)) _ _ _ | show wpAny _ _ (storeName _ _ (Value.int (HAdd.hAdd (HMul.hMul _ _) _) _)) _ _ _ | show wpAny _ _ (binaryOp Operator.FloorDiv (Value.int _ _) (Value.int (HPow.hPow _ _) _)) _ _ _ | show LCg.CompSrc _ _ _ _ _ _ _ _ _ _ _ _ _ _ | show LCg.CompEnd _ _ _ _ _ _ _ _ _ _ _ _ _ _)); first | walk1 | (dsimp only; walk1))))
  rw [alph_is]
  refine pair_at (k := 0) x (by decide) rfl ?_
  intro t₂ k₂
  dsimp only
  (repeat' (first | (k_unfold; try dsimp only) | ((fail_if_success (with_reducible (refine stopAt ?_ ?_; rotate_left; first | exact s13 | exact s1 | exact s2 | exact s3 | exact s4 | exact s5 | exact s6 | exact s8 | exact s11 | exact s12 | exact s9 | exact s10 | exact s7))); (fail_if_success (with_reducible first | show wpAny _ _ (binaryOp _ (Value.str (sx (List.take _ _)) _) (Value.str _ _)) _ _ _ | show wpAny _ _ (storeName _ _ (Value.int (HAdd.hAdd (HMul.hMul _ _) _) _)) _ _ _ | show wpAny _ _ (binaryOp Operator.FloorDiv (Value.int _ _) (Value.int (HPow.hPow _ _) _)) _ _ _ | show LCg.CompSrc _ _ _ _ _ _ _ _ _ _ _ _ _ _ | show LCg.CompEnd _ _ _ _ _ _ _ _ _ _ _ _ _ _)); first | walk1 | (dsimp only; walk1))))
  refine pchr ?_
  intro t₂ k₂
  dsimp only
  (repeat' (first | (k_unfold; try dsimp only) | ((fail_if_success (with_reducible (refine stopAt ?_ ?_; rotate_left; first | exact s13 | exact s1 | exact s2 | exact s3 | exact s4 | exact s5 | exact s6 | exact s8 | exact s11 | exact s12 | exact s9 | exact s10 | exact s7))); (fail_if_success (with_reducible first | show wpAny _ _ (binaryOp _ (Value.str (sx (List.take _ _)) _) (Value.str _ _)) _ _ _ | show wpAny _ _ (storeName _ _ (Value.int (HAdd.hAdd (HMul.hMul _ _) _) _)) _ _ _ | show wpAny _ _ (binaryOp Operator.FloorDiv (Value.int _ _) (Value.int (HPow.hPow _ _) _)) _ _ _ | show LCg.CompSrc _ _ _ _ _ _ _ _ _ _ _ _ _ _ | show LCg.CompEnd _ _ _ _ _ _ _ _ _ _ _ _ _ _)); first | walk1 | (dsimp only; walk1))))
  refine pair_at (k := 1) y (by decide) rfl ?_
  intro t₄ k₄
  dsimp only
  (repeat' (first | (k_unfold; try dsimp only) | ((fail_if_success (with_reducible (refine stopAt ?_ ?_; rotate_left; first | exact s13 | exact s1 | exact s2 | exact s3 | exact s4 | exact s5 | exact s6 | exact s8 | exact s11 | exact s12 | exact s9 | exact s10 | exact s7))); (fail_if_success (with_reducible first | show wpAny _ _ (binaryOp _ (Value.str (sx (List.take _ _)) _) (Value.str _ _)) _ _ _ | show wpAny _ _ (storeName _ _ (Value.int (HAdd.hAdd (HMul.hMul _ _) _) _)) _ _ _ | show wpAny _ _ (binaryOp Operator.FloorDiv (Value.int _ _) (Value.int (HPow.hPow _ _) _)) _ _ _ | show LCg.CompSrc _ _ _ _ _ _ _ _ _ _ _ _ _ _ | show LCg.CompEnd _ _ _ _ _ _ _ _ _ _ _ _ _ _)); first | walk1 | (dsimp only; walk1))))
  refine pchr ?_
  intro t₄ k₄
  dsimp only
  rw [show sx alph ++ sx [x.toNat] = sx (alph ++ [x.toNat]) from sx_add _ _]
  (repeat' (first | (k_unfold; try dsimp only) | ((fail_if_success (with_reducible (refine stopAt ?_ ?_; rotate_left; first | exact s13 | exact s1 | exact s2 | exact s3 | exact s4 | exact s5 | exact s6 | exact s8 | exact s11 | exact s12 | exact s9 | exact s10 | exact s7))); (fail_if_success (with_reducible first | show wpAny _ _ (binaryOp _ (Value.str (sx (List.take _ _)) _) (Value.str _ _)) _ _ _ | show wpAny _ _ (storeName _ _ (Value.int (HAdd.hAdd (HMul.hMul _ _) _) _)) _ _ _ | show wpAny _ _ (binaryOp Operator.FloorDiv (Value.int _ _) (Value.int (HPow.hPow _ _) _)) _ _ _ | show LCg.CompSrc _ _ _ _ _ _ _ _ _ _ _ _ _ _ | show LCg.CompEnd _ _ _ _ _ _ _ _ _ _ _ _ _ _)); first | walk1 | (dsimp only; walk1))))
  rename Fr _ _ _ _ => F₅
  rename News _ _ _ _ => N₅
  rename_i ha os tk₅ hb on hdn
  obtain ⟨ts, hds⟩ : ∃ ts, os.data = .cell (some (.str (sx (signsF x y)) ts)) := ⟨_, by rw [show sx (signsF x y) = sx (alph ++ [x.toNat]) ++ sx [y.toNat] from (sx_add _ _).symm]; assumption⟩
  have hsz := Heap.lt_size (N₅ _ (.head _)).1
  have hsz2 := Heap.lt_size (N₅ _ (.tail _ (.head _))).1
  have hsz3 := Heap.lt_size (N₅ _ (.tail _ (.tail _ (.head _)))).1
  refine wpAny_For ?_
  (repeat' (first | (k_unfold; try dsimp only) | ((fail_if_success (with_reducible (refine stopAt ?_ ?_; rotate_left; first | exact s13 | exact s1 | exact s2 | exact s3 | exact s4 | exact s5 | exact s6 | exact s8 | exact s11 | exact s12 | exact s9 | exact s10 | exact s7))); (fail_if_success (with_reducible first | show wpAny _ _ (binaryOp _ (Value.str (sx (List.take _ _)) _) (Value.str _ _)) _ _ _ | show wpAny _ _ (storeName _ _ (Value.int (HAdd.hAdd (HMul.hMul _ _) _) _)) _ _ _ | show wpAny _ _ (binaryOp Operator.FloorDiv (Value.int _ _) (Value.int (HPow.hPow _ _) _)) _ _ _ | show LCg.CompSrc _ _ _ _ _ _ _ _ _ _ _ _ _ _ | show LCg.CompEnd _ _ _ _ _ _ _ _ _ _ _ _ _ _)); first | walk1 | (dsimp only; walk1))))
  refine for_bytes (σ := Obj × Tok) rfl (fun _ _ => [("octets", .bytes b.toArray t), ("pair", .bytes #[x, y] u)]) (fun _ c => [(L + 1 + 1 + 1, oc), (L + 1 + 1, c.1), (L + 1, os)])
    (fun i c => c.1.data = .cell (some (.int (numF (b.take i)) c.2))) (on, _) ?_ F₅ (by (repeat' (first | exact fmn | refine fmc (@rfl (Option Value) (some _)) ?_))) N₅ hdn ?_ ?_
  · intro i c _ p hp
    simp only [List.mem_cons, List.not_mem_nil, or_false] at hp
    rcases hp with rfl | rfl | rfl
    · exact Nat.ne_of_lt hsz
    · exact Nat.ne_of_lt hsz2
    · exact Nat.ne_of_lt hsz3
  · rintro i ⟨on', tn⟩ z tz u₆ h₆ tk₆ own hz hdn' hown ⟨oi, hoi⟩ F₆ N₆
    dsimp only [kstB] at hdn' F₆ N₆ ⊢
    have hz1 : (0 : Int) ≤ z.toNat ∧ ((z.toNat : Nat) : Int) < 256 := by have := z.toNat_lt; omega
    have hnb := numF_le (b.take i) (by rw [List.length_take]; omega)
    have hnx : numF (b.take (i + 1)) = numF (b.take i) * 256 + (z.toNat : Int) := by rw [List.take_add_one, hz]; exact numF_snoc _ _
    generalize numF (b.take i) = nn at hdn' hnb hnx
    obtain ⟨hnb0, hnb1⟩ := hnb
    (repeat' (first | (k_unfold; try dsimp only) | ((fail_if_success (with_reducible (refine stopAt ?_ ?_; rotate_left; first | exact s13 | exact s1 | exact s2 | exact s3 | exact s4 | exact s5 | exact s6 | exact s8 | exact s11 | exact s12 | exact s9 | exact s10 | exact s7))); (fail_if_success (with_reducible first | show wpAny _ _ (binaryOp _ (Value.str (sx (List.take _ _)) _) (Value.str _ _)) _ _ _ | show wpAny _ _ (storeName _ _ (Value.int (HAdd.hAdd (HMul.hMul _ _) _) _)) _ _ _ | show wpAny _ _ (binaryOp Operator.FloorDiv (Value.int _ _) (Value.int (HPow.hPow _ _) _)) _ _ _ | show LCg.CompSrc _ _ _ _ _ _ _ _ _ _ _ _ _ _ | show LCg.CompEnd _ _ _ _ _ _ _ _ _ _ _ _ _ _)); first | walk1 | (dsimp only; walk1))))
    rename Fr _ _ _ _ => F₇
    rename News _ _ _ _ => N₇
    dsimp only
    refine storeX_C F₇ N₇ (by rfl) (UpdF.tail (by show L + 1 + 1 + 1 ≠ L + 1 + 1; exact Nat.ne_of_gt (Nat.lt_succ_self _)) (UpdF.head ?_)) hdn' ?_
    · intro p hp
      (revert p; refine fmc ?_ fun p hp => ?_)
      · exact Nat.ne_of_lt (Nat.lt_succ_self _)
      · rw [hown p hp]; exact Nat.ne_of_gt hsz2
    intro h₈ on₈ F₈ N₈ hdn₈
    obtain ⟨T₈, hdn₉⟩ : ∃ T, on₈.data = .cell (some (.int (nn * 256 + (z.toNat : Int)) T)) := ⟨_, hdn₈⟩
    clear hdn₈
    try dsimp only
    (repeat' (first | (k_unfold; try dsimp only) | ((fail_if_success (with_reducible (refine stopAt ?_ ?_; rotate_left; first | exact s13 | exact s1 | exact s2 | exact s3 | exact s4 | exact s5 | exact s6 | exact s8 | exact s11 | exact s12 | exact s9 | exact s10 | exact s7))); (fail_if_success (with_reducible first | show wpAny _ _ (binaryOp _ (Value.str (sx (List.take _ _)) _) (Value.str _ _)) _ _ _ | show wpAny _ _ (storeName _ _ (Value.int (HAdd.hAdd (HMul.hMul _ _) _) _)) _ _ _ | show wpAny _ _ (binaryOp Operator.FloorDiv (Value.int _ _) (Value.int (HPow.hPow _ _) _)) _ _ _ | show LCg.CompSrc _ _ _ _ _ _ _ _ _ _ _ _ _ _ | show LCg.CompEnd _ _ _ _ _ _ _ _ _ _ _ _ _ _)); first | walk1 | (dsimp only; walk1))))
    try dsimp only
    refine FEnd.mk' (on₈, T₈) F₈ (by (repeat' (first | exact fmn | refine fmc (@rfl (Option Value) (some _)) ?_))) N₈ ?_ ?_ ?_
    · intro p hp
      simp only [List.mem_cons, List.not_mem_nil, or_false] at hp
      rcases hp with rfl | rfl | rfl
      · exact .head _
      · exact .tail _ (.head _)
      · exact .tail _ (.tail _ (.head _))
    · intro p hp; exact .tail _ (.tail _ (.tail _ hp))
    · show on₈.data = _
      rw [hnx]; exact hdn₉
  · rintro ⟨on', tn⟩ u₆ h₆ tk₆ hdn' F₆ N₆
    dsimp only [kstB] at hdn' F₆ N₆ ⊢
    rw [List.take_of_length_le (Nat.le_refl _)] at hdn'
    have hnb := numF_le b hlen
    have hnb0 := hnb.1
    have hnb1 := hnb.2
    (repeat' (first | (k_unfold; try dsimp only) | ((fail_if_success (with_reducible (refine stopAt ?_ ?_; rotate_left; first | exact s13 | exact s1 | exact s2 | exact s3 | exact s4 | exact s5 | exact s6 | exact s8 | exact s11 | exact s12 | exact s9 | exact s10 | exact s7))); (fail_if_success (with_reducible first | show wpAny _ _ (binaryOp _ (Value.str (sx (List.take _ _)) _) (Value.str _ _)) _ _ _ | show wpAny _ _ (storeName _ _ (Value.int (HAdd.hAdd (HMul.hMul _ _) _) _)) _ _ _ | show wpAny _ _ (binaryOp Operator.FloorDiv (Value.int _ _) (Value.int (HPow.hPow _ _) _)) _ _ _ | show LCg.CompSrc _ _ _ _ _ _ _ _ _ _ _ _ _ _ | show LCg.CompEnd _ _ _ _ _ _ _ _ _ _ _ _ _ _)); first | walk1 | (dsimp only; walk1))))
    have hs0 : 0 ≤ wsp b := Int.fmod_nonneg_of_pos _ (by decide)
    have hs1 : wsp b < 3 := Int.fmod_lt_of_pos _ (by decide)
    have hP : (1 : Int) ≤ 256 ^ (wsp b).toNat ∧ (256 : Int) ^ (wsp b).toNat ≤ 65536 := by
      rcases (show wsp b = 0 ∨ wsp b = 1 ∨ wsp b = 2 by omega) with e | e | e <;> rw [e] <;> decide
    have hNN : 0 ≤ wnum b ∧ wnum b < 18446744073709551616 := by
      unfold wnum
      constructor
      · exact Int.mul_nonneg hnb0 (by omega)
      · calc numF b * 256 ^ (wsp b).toNat ≤ 281474976710655 * 65536 := Int.mul_le_mul (by omega) hP.2 (by omega) (by omega)
          _ < _ := by decide
    have hct : 0 ≤ wcount b ∧ wcount b ≤ 8 ∧ wsp b ≤ wcount b := by
      unfold wcount
      rw [Int.fdiv_eq_ediv_of_nonneg _ (by decide)]
      have he : wsp b = (0 - (b.length : Int)) % 3 := by unfold wsp; rw [Int.fmod_eq_emod_of_nonneg _ (by decide)]
      omega
    (repeat' (first | (k_unfold; try dsimp only) | ((fail_if_success (with_reducible (refine stopAt ?_ ?_; rotate_left; first | exact s13 | exact s1 | exact s2 | exact s3 | exact s4 | exact s5 | exact s6 | exact s8 | exact s11 | exact s12 | exact s9 | exact s10 | exact s7))); (fail_if_success (with_reducible first | show wpAny _ _ (binaryOp _ (Value.str (sx (List.take _ _)) _) (Value.str _ _)) _ _ _ | show wpAny _ _ (storeName _ _ (Value.int (HAdd.hAdd (HMul.hMul _ _) _) _)) _ _ _ | show wpAny _ _ (binaryOp Operator.FloorDiv (Value.int _ _) (Value.int (HPow.hPow _ _) _)) _ _ _ | show LCg.CompSrc _ _ _ _ _ _ _ _ _ _ _ _ _ _ | show LCg.CompEnd _ _ _ _ _ _ _ _ _ _ _ _ _ _)); first | walk1 | (dsimp only; walk1))))
    rename Fr _ _ _ _ => F₉
    rename News _ _ _ _ => N₉
    rename_i h₇ on₇ hdn₇ h₈ oc₈ hdc₈
    obtain ⟨T₇, hdn₉⟩ : ∃ T, on₇.data = .cell (some (.int (wnum b) T)) := ⟨_, hdn₇⟩
    obtain ⟨T₈, hdc₉⟩ : ∃ T, oc₈.data = .cell (some (.int (wcount b) T)) := ⟨_, hdc₈⟩
    obtain ⟨T₉, F₁₀⟩ : ∃ T, Fr g L h₈ (fun z => if z = "spare" then some (.int (wsp b) T) else if z = "octets" then some (.bytes b.toArray t) else if z = "pair" then some (.bytes #[x, y] u) else u₆ z) := ⟨_, F₉⟩
    clear hdn₇ hdc₈ F₉ hdn'
    dsimp only
    refine LCg.ListComp_U (F₀ := F₁₀) (by with_unfolding_all rfl) (by decide) (by rfl) (by decide) (by rfl) ?_
    (repeat' (first | (k_unfold; try dsimp only) | ((fail_if_success (with_reducible (refine stopAt ?_ ?_; rotate_left; first | exact s13 | exact s1 | exact s2 | exact s3 | exact s4 | exact s5 | exact s6 | exact s8 | exact s11 | exact s12 | exact s9 | exact s10 | exact s7))); (fail_if_success (with_reducible first | show wpAny _ _ (binaryOp _ (Value.str (sx (List.take _ _)) _) (Value.str _ _)) _ _ _ | show wpAny _ _ (storeName _ _ (Value.int (HAdd.hAdd (HMul.hMul _ _) _) _)) _ _ _ | show wpAny _ _ (binaryOp Operator.FloorDiv (Value.int _ _) (Value.int (HPow.hPow _ _) _)) _ _ _ | show LCg.CompSrc _ _ _ _ _ _ _ _ _ _ _ _ _ _ | show LCg.CompEnd _ _ _ _ _ _ _ _ _ _ _ _ _ _)); first | walk1 | (dsimp only; walk1))))
    rename IsRange _ _ _ _ _ _ _ _ => hr
    rename Fr _ _ _ _ => F₁₁
    rename News _ _ _ _ => N₁₁
    have hcn : wcount b = ((wcount b).toNat : Int) := (Int.toNat_of_nonneg hct.1).symm
    have hct0 := hct.1
    have hct1 := hct.2.1
    have hct2 := hct.2.2
    rw [hcn] at hr
    refine LCg.CompSrc.range rfl F₁₁ N₁₁ hr (range_small _ (by omega)) (range_size _) (by rw [sizeLine_eq]; omega) ?_
    intro g'
    dsimp only
    refine compRest_of (fun i ys news => news = [(L + 1 + 1 + 1, oc₈), (L + 1 + 1, on₇), (L + 1, os)] ∧ StrsAre ys ((List.range i).map fun j => sx [wsign b x y j])) ⟨rfl, .nil⟩ ?_ ?_
    · rintro i ys news v I oI C oC D m₂ h₁₂ tk₁₂ E' hi ⟨rfl, hys⟩ ⟨tv, rfl⟩ hoC hm₂ F₁₂ N₁₂ hoff hne
      rw [show (0 : Int) + (i : Int) = (i : Int) by omega] at hm₂
      have hij : (i : Int) < wcount b := by omega
      have hij0 : 0 ≤ wcount b - 1 - (i : Int) := by omega
      simp only [LCg.Off3] at hoff
      (repeat' (first | (k_unfold; try dsimp only) | ((fail_if_success (with_reducible (refine stopAt ?_ ?_; rotate_left; first | exact s13 | exact s1 | exact s2 | exact s3 | exact s4 | exact s5 | exact s6 | exact s8 | exact s11 | exact s12 | exact s9 | exact s10 | exact s7))); (fail_if_success (with_reducible first | show wpAny _ _ (binaryOp _ (Value.str (sx (List.take _ _)) _) (Value.str _ _)) _ _ _ | show wpAny _ _ (storeName _ _ (Value.int (HAdd.hAdd (HMul.hMul _ _) _) _)) _ _ _ | show wpAny _ _ (binaryOp Operator.FloorDiv (Value.int _ _) (Value.int (HPow.hPow _ _) _)) _ _ _ | show LCg.CompSrc _ _ _ _ _ _ _ _ _ _ _ _ _ _ | show LCg.CompEnd _ _ _ _ _ _ _ _ _ _ _ _ _ _)); first | walk1 | (dsimp only; walk1))))
      have hD : (1 : Int) ≤ 64 ^ (wcount b - 1 - (i : Int)).toNat ∧ (64 : Int) ^ (wcount b - 1 - (i : Int)).toNat ≤ 2 ^ 60 := by
        have : (wcount b - 1 - (i : Int)).toNat ≤ 7 := by omega
        generalize (wcount b - 1 - (i : Int)).toNat = k at this
        rcases (show k = 0 ∨ k = 1 ∨ k = 2 ∨ k = 3 ∨ k = 4 ∨ k = 5 ∨ k = 6 ∨ k = 7 by omega) with e | e | e | e | e | e | e | e <;> subst e <;> decide
      dsimp only
      refine floordiv_int (by omega) ?_ (.inl (nopl (by omega) hD.2))
      (repeat' (first | (k_unfold; try dsimp only) | ((fail_if_success (with_reducible (refine stopAt ?_ ?_; rotate_left; first | exact s13 | exact s1 | exact s2 | exact s3 | exact s4 | exact s5 | exact s6 | exact s8 | exact s11 | exact s12 | exact s9 | exact s10 | exact s7))); (fail_if_success (with_reducible first | show wpAny _ _ (binaryOp _ (Value.str (sx (List.take _ _)) _) (Value.str _ _)) _ _ _ | show wpAny _ _ (storeName _ _ (Value.int (HAdd.hAdd (HMul.hMul _ _) _) _)) _ _ _ | show wpAny _ _ (binaryOp Operator.FloorDiv (Value.int _ _) (Value.int (HPow.hPow _ _) _)) _ _ _ | show LCg.CompSrc _ _ _ _ _ _ _ _ _ _ _ _ _ _ | show LCg.CompEnd _ _ _ _ _ _ _ _ _ _ _ _ _ _)); first | walk1 | (dsimp only; walk1))))
      have hm0 := Int.fmod_nonneg_of_pos ((wnum b).fdiv (64 ^ (wcount b - 1 - (i : Int)).toNat)) (show (0 : Int) < 64 by decide)
      have hm1 := Int.fmod_lt_of_pos ((wnum b).fdiv (64 ^ (wcount b - 1 - (i : Int)).toNat)) (show (0 : Int) < 64 by decide)
      dsimp only
      refine KXi.item (n := 64) (by rfl) (by omega) (by omega) (by decide) ?_
      intro _
      rw [tx_item (l := signsF x y) hm0 (show _ < (64 : Int) from hm1)]
      dsimp only
      (repeat' (first | (k_unfold; try dsimp only) | ((fail_if_success (with_reducible (refine stopAt ?_ ?_; rotate_left; first | exact s13 | exact s1 | exact s2 | exact s3 | exact s4 | exact s5 | exact s6 | exact s8 | exact s11 | exact s12 | exact s9 | exact s10 | exact s7))); (fail_if_success (with_reducible first | show wpAny _ _ (binaryOp _ (Value.str (sx (List.take _ _)) _) (Value.str _ _)) _ _ _ | show wpAny _ _ (storeName _ _ (Value.int (HAdd.hAdd (HMul.hMul _ _) _) _)) _ _ _ | show wpAny _ _ (binaryOp Operator.FloorDiv (Value.int _ _) (Value.int (HPow.hPow _ _) _)) _ _ _ | show LCg.CompSrc _ _ _ _ _ _ _ _ _ _ _ _ _ _ | show LCg.CompEnd _ _ _ _ _ _ _ _ _ _ _ _ _ _)); first | walk1 | (dsimp only; walk1))))
      refine CompEnd.mk' (news' := [(L + 1 + 1 + 1, oc₈), (L + 1 + 1, on₇), (L + 1, os)]) F₁₂ N₁₂ (by simp only [LCg.Off3]; exact hoff) trivial ⟨rfl, ?_⟩
      rw [List.range_succ, List.map_append]
      exact hys.append' (.cons _ _ .nil)
    · rintro ys news ⟨rfl, hys⟩
      (repeat' (first | (k_unfold; try dsimp only) | ((fail_if_success (with_reducible (refine stopAt ?_ ?_; rotate_left; first | exact s13 | exact s1 | exact s2 | exact s3 | exact s4 | exact s5 | exact s6 | exact s8 | exact s11 | exact s12 | exact s9 | exact s10 | exact s7))); (fail_if_success (with_reducible first | show wpAny _ _ (binaryOp _ (Value.str (sx (List.take _ _)) _) (Value.str _ _)) _ _ _ | show wpAny _ _ (storeName _ _ (Value.int (HAdd.hAdd (HMul.hMul _ _) _) _)) _ _ _ | show wpAny _ _ (binaryOp Operator.FloorDiv (Value.int _ _) (Value.int (HPow.hPow _ _) _)) _ _ _ | show LCg.CompSrc _ _ _ _ _ _ _ _ _ _ _ _ _ _ | show LCg.CompEnd _ _ _ _ _ _ _ _ _ _ _ _ _ _)); first | walk1 | (dsimp only; walk1))))
      rename Fr _ _ _ _ => F₁₃
      rename News _ _ _ _ => N₁₃
      refine join_listC (ys := (wword b x y).map fun c => sx [c]) ⟨_, (N₁₃ _ (.head _)).1, rfl, _, rfl⟩ (by unfold wword; rw [List.map_map]; exact hys) (by decide) ?_ ?_
      · rw [List.map_map]
        have := sum_le (fun c => (sx [c]).length) 1 (wword b x y) (fun c _ => by simp [Str.length])
        have hl : (wword b x y).length ≤ 8 := by unfold wword; rw [List.length_map, List.length_range]; omega
        simp only [List.length_map, Function.comp_def] at this ⊢
        omega
      intro t₁₄ k₁₄
      rw [show ((wword b x y).map fun c => sx [c]) = ((wword b x y).map fun c => [c]).map sx by rw [List.map_map]; rfl, glue_nil, show ((wword b x y).map fun c => [c]).flatten = wword b x y by rw [← List.flatMap_def]; simp]
      dsimp only
      (repeat' (first | (k_unfold; try dsimp only) | ((fail_if_success (with_reducible (refine stopAt ?_ ?_; rotate_left; first | exact s13 | exact s1 | exact s2 | exact s3 | exact s4 | exact s5 | exact s6 | exact s8 | exact s11 | exact s12 | exact s9 | exact s10 | exact s7))); (fail_if_success (with_reducible first | show wpAny _ _ (binaryOp _ (Value.str (sx (List.take _ _)) _) (Value.str _ _)) _ _ _ | show wpAny _ _ (storeName _ _ (Value.int (HAdd.hAdd (HMul.hMul _ _) _) _)) _ _ _ | show wpAny _ _ (binaryOp Operator.FloorDiv (Value.int _ _) (Value.int (HPow.hPow _ _) _)) _ _ _ | show LCg.CompSrc _ _ _ _ _ _ _ _ _ _ _ _ _ _ | show LCg.CompEnd _ _ _ _ _ _ _ _ _ _ _ _ _ _)); first | walk1 | (dsimp only; walk1))))
      rename Fr _ _ _ _ => F₁₅
      rename News _ _ _ _ => N₁₅
      have hwl : (wword b x y).length ≤ 8 := by unfold wword; rw [List.length_map, List.length_range]; omega
      refine slice_strN_ns F₁₅ N₁₅ ?_ (hsz := by rw [sizeLine_eq]; show (wword b x y).length ≤ _; omega)
      intro h₁₆ t₁₆ k₁₆ F₁₆ N₁₆
      rw [tx_take (by omega)]
      dsimp only
      (repeat' (first | (k_unfold; try dsimp only) | ((fail_if_success (with_reducible (refine stopAt ?_ ?_; rotate_left; first | exact s13 | exact s1 | exact s2 | exact s3 | exact s4 | exact s5 | exact s6 | exact s8 | exact s11 | exact s12 | exact s9 | exact s10 | exact s7))); (fail_if_success (with_reducible first | show wpAny _ _ (binaryOp _ (Value.str (sx (List.take _ _)) _) (Value.str _ _)) _ _ _ | show wpAny _ _ (storeName _ _ (Value.int (HAdd.hAdd (HMul.hMul _ _) _) _)) _ _ _ | show wpAny _ _ (binaryOp Operator.FloorDiv (Value.int _ _) (Value.int (HPow.hPow _ _) _)) _ _ _ | show LCg.CompSrc _ _ _ _ _ _ _ _ _ _ _ _ _ _ | show LCg.CompEnd _ _ _ _ _ _ _ _ _ _ _ _ _ _)); first | walk1 | (dsimp only; walk1))))
      have hrep : Txt.mul (Str.ofString "=") (wsp b) = sx (List.replicate (wsp b).toNat 61) := tx_rep hs0
      refine sadd rfl hrep (by rw [List.length_take, List.length_replicate]; omega) ?_
      intro t₁₇ k₁₇
      dsimp only
      (repeat' (first | (k_unfold; try dsimp only) | ((fail_if_success (with_reducible (refine stopAt ?_ ?_; rotate_left; first | exact s13 | exact s1 | exact s2 | exact s3 | exact s4 | exact s5 | exact s6 | exact s8 | exact s11 | exact s12 | exact s9 | exact s10 | exact s7))); (fail_if_success (with_reducible first | show wpAny _ _ (binaryOp _ (Value.str (sx (List.take _ _)) _) (Value.str _ _)) _ _ _ | show wpAny _ _ (storeName _ _ (Value.int (HAdd.hAdd (HMul.hMul _ _) _) _)) _ _ _ | show wpAny _ _ (binaryOp Operator.FloorDiv (Value.int _ _) (Value.int (HPow.hPow _ _) _)) _ _ _ | show LCg.CompSrc _ _ _ _ _ _ _ _ _ _ _ _ _ _ | show LCg.CompEnd _ _ _ _ _ _ _ _ _ _ _ _ _ _)); first | walk1 | (dsimp only; walk1))))
      exact h _ _ _ (fun b₁ o hb' e => F₁₆.keep b₁ o (hg ▸ hideAll_get _ e hb'))
end Mine
end

section
open PySem PySem.W PySem.Calls PyProof.Rows PySem.MeetsSeq
set_option Elab.async false
set_option maxRecDepth 100000
set_option maxHeartbeats 4000000
set_option linter.unusedVariables false
namespace Mine
theorem fillLx : hd.heap_1 = hd.heap_1 ∧ Challenge.rw_oy0121_01 = Challenge.rw_oy0121_01 := by k_fill; exact ⟨rfl, rfl⟩
/-- a list of the signs of a text -/
noncomputable abbrev signsAre (vs : List Value) (l : List Nat) : Prop := StrsAre vs (l.map fun c => sx [c])
/-- what the reader of the stream does -/
noncomputable def ReadC (w : World) (rd : Addr) (fix : List (Addr × Obj)) (ls : Addr) : Prop :=
  ∀ {dp un : Nat} {fr gd} {s : Shared} {h₀ : Heap} {l : List Nat} {vs : List Value} {n : Nat} {t : Tok} {R : Result → Shared → Prop}, At w h₀ s (fix ++ [(ls, listOf vs.toArray n)]) → dp < 900 → un < 9000 → signsAre vs l → l.length ≤ 100000 →
    (∀ h' tk vs' n' u, KeepBut [ls] s.heap h' → h'.get? ls = some (listOf vs'.toArray n') → signsAre vs' l.tail → R (.ok (.ret (.str (sx (l.take 1)) u))) { s with heap := h', toks := tk }) →
    codeAny (model PP w) (AA dp un fr gd) (.call (.ref rd) ⟨[.int 1 t], []⟩) R s
structure LxA where
  x : Addr
  dx : Addr
  st : Addr
  ds : Addr
  rd : Addr
  pb : Addr
  ls : Addr
noncomputable abbrev lexDict (w : World) (a : LxA) (ln : Int) (tl k1 k2 k3 k4 tw : Tok) : Obj :=
  dictOf [⟨PyData.keyHash w.params (Str.ofString "lineno"), .str (Str.ofString "lineno") k1, .int ln tl⟩, ⟨PyData.keyHash w.params (Str.ofString "instream"), .str (Str.ofString "instream") k2, .ref a.st⟩,
    ⟨PyData.keyHash w.params (Str.ofString "whitespace"), .str (Str.ofString "whitespace") k3, .str (Str.ofString "\n\t\x0d ") tw⟩, ⟨PyData.keyHash w.params (Str.ofString "pushback"), .str (Str.ofString "pushback") k4, .ref a.pb⟩] 4
theorem keep_of {g : Heap} {L : Addr} {h h' : Heap} {m : Str → Option Value} {news ws : List (Addr × Obj)} {ch : List Addr} (hg : g = hideAll h (ws.map (·.1))) (F : Fr g L h' m) (N : News g L h' news) (hws : ∀ p ∈ ws, p.1 ∉ ch → p ∈ news) (H : ∀ p ∈ ws, h.get? p.1 = some p.2) : KeepBut ch h h' := by
  intro b o hb e
  by_cases hm : b ∈ ws.map (·.1)
  · obtain ⟨p, hp, rfl⟩ := List.mem_map.mp hm
    have h1 := H p hp
    rw [e] at h1
    cases h1
    exact (N p (hws p hp hb)).1
  · exact F.keep b o (hg ▸ hideAll_get _ e hm)
structure LxApart (a : LxA) (fix : List (Addr × Obj)) : Prop where
  ls : a.x ≠ a.ls ∧ a.dx ≠ a.ls ∧ a.st ≠ a.ls ∧ a.ds ≠ a.ls ∧ a.pb ≠ a.ls
  dx : a.x ≠ a.dx ∧ a.st ≠ a.dx ∧ a.ds ≠ a.dx ∧ a.pb ≠ a.dx
  fix : ∀ p ∈ fix, p.1 ≠ a.ls ∧ p.1 ≠ a.dx
theorem readc_call {w : World} {dp un : Nat} {fr gd} {s : Shared} {h₀ : Heap} {a : LxA} {fix : List (Addr × Obj)} {l : List Nat} {vs : List Value} {n : Nat} {ln : Int} {tl k1 k2 k3 k4 tw tr : Tok} {fdS fdR : FuncData} {R : Result → Shared → Prop}
    (H : At w h₀ s ((a.x, instObj 175 a.dx) :: (a.dx, lexDict w a ln tl k1 k2 k3 k4 tw) :: (a.st, fnObj (some a.ds) fdS) :: (a.ds, readDict w (.ref a.rd) tr) :: (fix ++ [(a.ls, listOf vs.toArray n)]))) (hdp : dp < 890) (hu : un < 8900)
    (hR : ReadC w a.rd fix a.ls) (hfix : (a.rd, fnObj none fdR) ∈ fix) (hap : LxApart a fix) (hv : signsAre vs l) (hl : l.length ≤ 100000) (hln : 0 ≤ ln ∧ ln < 100000000)
    (h : ∀ h' tk vs' n' u ln' tl', KeepBut [a.dx, a.ls] s.heap h' → h'.get? a.dx = some (lexDict w a ln' tl' k1 k2 k3 k4 tw) → h'.get? a.ls = some (listOf vs'.toArray n') → signsAre vs' l.tail → ln' ≤ ln + 1 → 0 ≤ ln' → R (.ok (.ret (.str (sx (l.take 1)) u))) { s with heap := h', toks := tk }) :
    codeAny (model PP w) (AA dp un fr gd) (.call (.ref 158) ⟨[.ref a.x], []⟩) R s := by
  refine enter (binds := [("self", .ref a.x)]) H (by k_is) (by k_is) (by show dp < 1000; omega) (BindsTo.of_eq rfl) (locs rfl) ?_ (by decide)
  intro p loose mg mb g L h₁ hg X T F N hlt
  k_fold
  (repeat' (first | (k_unfold; try dsimp only) | ((fail_if_success (with_reducible (refine stopAt ?_ ?_; rotate_left; first | exact s14 | exact s15 | exact s1 | exact s2 | exact s3 | exact s4 | exact s5 | exact s16 | exact s6 | exact s8 | exact s11 | exact s12 | exact s9 | exact s10 | exact s7))); (fail_if_success (with_reducible first | show LCg.CompSrc _ _ _ _ _ _ _ _ _ _ _ _ _ _ | show LCg.CompEnd _ _ _ _ _ _ _ _ _ _ _ _ _ _)); first | walk1 | (dsimp only; walk1))))
  have mst : (a.st, fnObj (some a.ds) fdS) ∈ (a.x, instObj 175 a.dx) :: (a.dx, lexDict w a ln tl k1 k2 k3 k4 tw) :: (a.st, fnObj (some a.ds) fdS) :: (a.ds, readDict w (.ref a.rd) tr) :: (fix ++ [(a.ls, listOf vs.toArray n)]) := .tail _ (.tail _ (.head _))
  have mds : (a.ds, readDict w (.ref a.rd) tr) ∈ (a.x, instObj 175 a.dx) :: (a.dx, lexDict w a ln tl k1 k2 k3 k4 tw) :: (a.st, fnObj (some a.ds) fdS) :: (a.ds, readDict w (.ref a.rd) tr) :: (fix ++ [(a.ls, listOf vs.toArray n)]) := .tail _ (.tail _ (.tail _ (.head _)))
  have mfix : ∀ q ∈ fix ++ [(a.ls, listOf vs.toArray n)], q ∈ (a.x, instObj 175 a.dx) :: (a.dx, lexDict w a ln tl k1 k2 k3 k4 tw) :: (a.st, fnObj (some a.ds) fdS) :: (a.ds, readDict w (.ref a.rd) tr) :: (fix ++ [(a.ls, listOf vs.toArray n)]) := fun q hq => .tail _ (.tail _ (.tail _ (.tail _ hq)))
  refine getMethod_fn (N _ mst).1 (N _ mds).1 rfl ?_
  (repeat' (first | (k_unfold; try dsimp only) | ((fail_if_success (with_reducible (refine stopAt ?_ ?_; rotate_left; first | exact s14 | exact s15 | exact s1 | exact s2 | exact s3 | exact s4 | exact s5 | exact s16 | exact s6 | exact s8 | exact s11 | exact s12 | exact s9 | exact s10 | exact s7))); (fail_if_success (with_reducible first | show LCg.CompSrc _ _ _ _ _ _ _ _ _ _ _ _ _ _ | show LCg.CompEnd _ _ _ _ _ _ _ _ _ _ _ _ _ _)); first | walk1 | (dsimp only; walk1))))
  refine callWith_F (FnAt.of N (mfix _ (List.mem_append_left _ hfix))) ?_
  (repeat' (first | (k_unfold; try dsimp only) | ((fail_if_success (with_reducible (refine stopAt ?_ ?_; rotate_left; first | exact s14 | exact s15 | exact s1 | exact s2 | exact s3 | exact s4 | exact s5 | exact s16 | exact s6 | exact s8 | exact s11 | exact s12 | exact s9 | exact s10 | exact s7))); (fail_if_success (with_reducible first | show LCg.CompSrc _ _ _ _ _ _ _ _ _ _ _ _ _ _ | show LCg.CompEnd _ _ _ _ _ _ _ _ _ _ _ _ _ _)); first | walk1 | (dsimp only; walk1))))
  · exact FnAt.of N (mfix _ (List.mem_append_left _ hfix))
  try dsimp only
  refine wpAny_call (hR (at_of X T F N mfix) (by show dp + 1 < 900; omega) (by show un + _ < 9000; omega) hv hl ?_)
  intro h₂ tk₂ vs₂ n₂ u₂ K₂ e₂ hv₂
  have wls := N _ (mfix _ (List.mem_append_right _ (.head _)))
  have F₂ := fr_after F K₂ (by simp; exact fun e => wls.2.1 e.symm) (by simp; exact wls.2.2)
  have N₂ := news_app (news_after (news := (a.x, instObj 175 a.dx) :: (a.dx, lexDict w a ln tl k1 k2 k3 k4 tw) :: (a.st, fnObj (some a.ds) fdS) :: (a.ds, readDict w (.ref a.rd) tr) :: fix) (fun p hp => N p (by
    (revert p; refine fmc ?_ fun p hp => ?_)
    · exact .head _
    · (revert p; refine fmc ?_ fun p hp => ?_)
      · exact .tail _ (.head _)
      · (revert p; refine fmc ?_ fun p hp => ?_)
        · exact mst
        · (revert p; refine fmc ?_ fun p hp => ?_)
          · exact mds
          · exact mfix _ (List.mem_append_left _ hp))) K₂ (fun p hp q => by
    have q' := List.mem_singleton.mp q
    obtain ⟨a1, a2, a3, a4, _⟩ := hap.ls
    rcases List.mem_cons.mp hp with rfl | hp
    · exact a1 q'
    · rcases List.mem_cons.mp hp with rfl | hp
      · exact a2 q'
      · rcases List.mem_cons.mp hp with rfl | hp
        · exact a3 q'
        · rcases List.mem_cons.mp hp with rfl | hp
          · exact a4 q'
          · exact (hap.fix p hp).1 q')) (news_one e₂ wls.2.1 wls.2.2)
  simp only [List.cons_append] at N₂
  clear N
  try dsimp only
  (repeat' (first | (k_unfold; try dsimp only) | ((fail_if_success (with_reducible (refine stopAt ?_ ?_; rotate_left; first | exact s14 | exact s15 | exact s1 | exact s2 | exact s3 | exact s4 | exact s5 | exact s16 | exact s6 | exact s8 | exact s11 | exact s12 | exact s9 | exact s10 | exact s7))); (fail_if_success (with_reducible first | show LCg.CompSrc _ _ _ _ _ _ _ _ _ _ _ _ _ _ | show LCg.CompEnd _ _ _ _ _ _ _ _ _ _ _ _ _ _)); first | walk1 | (dsimp only; walk1))))
  · rename Fr _ _ _ _ => F₃
    rename News _ _ _ _ => N₃
    try dsimp only
    refine set_dict F₃ X N₃ (by k_inst) rfl (by k_is) (by k_is) (by k_is) (by k_is) (by k_get) (by k_put) (Upd.tail hap.dx.1 (Upd.head ?_)) (Nat.le_of_ble_eq_true rfl) ?_
    · intro p hp
      (revert p; refine fmc ?_ fun p hp => ?_)
      · exact hap.dx.2.1
      · (revert p; refine fmc ?_ fun p hp => ?_)
        · exact hap.dx.2.2.1
        · rcases List.mem_append.mp hp with hp | hp
          · exact (hap.fix p hp).2
          · rw [List.mem_singleton.mp hp]; exact hap.ls.2.1.symm
    intro h₄ F₄ N₄
    dsimp only
    (repeat' (first | (k_unfold; try dsimp only) | ((fail_if_success (with_reducible (refine stopAt ?_ ?_; rotate_left; first | exact s14 | exact s15 | exact s1 | exact s2 | exact s3 | exact s4 | exact s5 | exact s16 | exact s6 | exact s8 | exact s11 | exact s12 | exact s9 | exact s10 | exact s7))); (fail_if_success (with_reducible first | show LCg.CompSrc _ _ _ _ _ _ _ _ _ _ _ _ _ _ | show LCg.CompEnd _ _ _ _ _ _ _ _ _ _ _ _ _ _)); first | walk1 | (dsimp only; walk1))))
    refine h _ _ vs₂ n₂ _ (ln + 1) _ (keep_of hg F₄ N₄ ?_ (fun p hp => (H.ws p hp).1)) (N₄ _ (.tail _ (.head _))).1 (N₄ _ (.tail _ (.tail _ (.tail _ (.tail _ (List.mem_append_right _ (.head _))))))).1 hv₂ (by omega) (by omega)
    intro p hp hn
    simp only [List.mem_cons, List.not_mem_nil, or_false, not_or] at hn
    rcases List.mem_cons.mp hp with rfl | hp
    · exact .head _
    · rcases List.mem_cons.mp hp with rfl | hp
      · exact absurd rfl hn.1
      · rcases List.mem_cons.mp hp with rfl | hp
        · exact .tail _ (.tail _ (.head _))
        · rcases List.mem_cons.mp hp with rfl | hp
          · exact .tail _ (.tail _ (.tail _ (.head _)))
          · rcases List.mem_append.mp hp with hp | hp
            · exact .tail _ (.tail _ (.tail _ (.tail _ (List.mem_append_left _ hp))))
            · rw [List.mem_singleton.mp hp] at hn; exact absurd rfl hn.2
  · rename Fr _ _ _ _ => F₃
    rename News _ _ _ _ => N₃
    dsimp only
    refine h _ _ vs₂ n₂ _ ln tl (keep_of hg F₃ N₃ ?_ (fun p hp => (H.ws p hp).1)) (N₃ _ (.tail _ (.head _))).1 (N₃ _ (.tail _ (.tail _ (.tail _ (.tail _ (List.mem_append_right _ (.head _))))))).1 hv₂ (by omega) (by omega)
    intro p hp hn
    simp only [List.mem_cons, List.not_mem_nil, or_false, not_or] at hn
    rcases List.mem_cons.mp hp with rfl | hp
    · exact .head _
    · rcases List.mem_cons.mp hp with rfl | hp
      · exact .tail _ (.head _)
      · rcases List.mem_cons.mp hp with rfl | hp
        · exact .tail _ (.tail _ (.head _))
        · rcases List.mem_cons.mp hp with rfl | hp
          · exact .tail _ (.tail _ (.tail _ (.head _)))
          · rcases List.mem_append.mp hp with hp | hp
            · exact .tail _ (.tail _ (.tail _ (.tail _ (List.mem_append_left _ hp))))
            · rw [List.mem_singleton.mp hp] at hn; exact absurd rfl hn.2
end Mine
end

section
open PySem PySem.W PySem.Calls PyProof.Rows PySem.MeetsSeq
set_option Elab.async false
set_option maxRecDepth 100000
set_option maxHeartbeats 4000000
set_option linter.unusedVariables false
namespace Mine
theorem fillLg : hd.heap_1 = hd.heap_1 ∧ Challenge.rw_oy0121_01 = Challenge.rw_oy0121_01 := by k_fill; exact ⟨rfl, rfl⟩
/-- what stands fast about a lexer -/
structure LxK where
  a : LxA
  fix : List (Addr × Obj)
  fdS : FuncData
  fdR : FuncData
  tr : Tok
  k1 : Tok
  k2 : Tok
  k3 : Tok
  k4 : Tok
  tw : Tok
  np : Nat
/-- what turns: the line, the signs that are left -/
structure LxS where
  ln : Int
  tl : Tok
  vs : List Value
  n : Nat
  l : List Nat
noncomputable abbrev LX (w : World) (k : LxK) (c : LxS) : List (Addr × Obj) :=
  (k.a.x, instObj 175 k.a.dx) :: (k.a.dx, lexDict w k.a c.ln c.tl k.k1 k.k2 k.k3 k.k4 k.tw) :: (k.a.st, fnObj (some k.a.ds) k.fdS) :: (k.a.ds, readDict w (.ref k.a.rd) k.tr) :: (k.fix ++ [(k.a.ls, listOf c.vs.toArray c.n)])
noncomputable abbrev LP (k : LxK) : Addr × Obj := (k.a.pb, listOf (#[] : Array Value) k.np)
structure LxOk (w : World) (k : LxK) : Prop where
  rd : ReadC w k.a.rd k.fix k.a.ls
  mem : (k.a.rd, fnObj none k.fdR) ∈ k.fix
  ap : LxApart k.a k.fix
noncomputable def LxP (c : LxS) : Prop := signsAre c.vs c.l ∧ c.l.length ≤ 100000 ∧ 0 ≤ c.ln ∧ c.ln + (c.l.length : Int) ≤ 100001
theorem read_step {w : World} {dp un : Nat} {fr gd} {s : Shared} {g : Heap} {L : Addr} {m : Str → Option Value} {p : Program} {loose : List Str} {mg mb : Str → Option Value} {k : LxK} {c : LxS} {own : List (Addr × Obj)} {R : Result → Shared → Prop}
    (X : (hd.heap_1 w.params).In g) (T : TopRead p loose mg mb g) (F : Fr g L s.heap m) (N : News g L s.heap (own ++ LX w k c)) (hk : LxOk w k) (hc : LxP c) (how : ∀ q ∈ own, q.1 ≠ k.a.dx ∧ q.1 ≠ k.a.ls) (hdp : dp < 890) (hu : un < 8900)
    (h : ∀ h' tk c' u, Fr g L h' m → News g L h' (own ++ LX w k c') → c'.l = c.l.tail → (c.l ≠ [] → LxP c') → R (.ok (.ret (.str (sx (c.l.take 1)) u))) { s with heap := h', toks := tk }) :
    codeAny (model PP w) (AA dp un fr gd) (.call (.ref 158) ⟨[.ref k.a.x], []⟩) R s := by
  obtain ⟨hv, hl, hln, hsum⟩ := hc
  refine readc_call (at_of X T F N (fun q hq => List.mem_append_right _ hq)) hdp hu hk.rd hk.mem hk.ap hv hl ⟨hln, by omega⟩ ?_
  intro h₂ tk₂ vs₂ n₂ u₂ ln₂ tl₂ K₂ ed els hv₂ hle hge
  have wdx := N _ (List.mem_append_right own (.tail _ (.head _)))
  have wls := N _ (List.mem_append_right own (.tail _ (.tail _ (.tail _ (.tail _ (List.mem_append_right _ (.head _)))))))
  have F₂ := fr_after F K₂ (by simp only [List.mem_cons, List.not_mem_nil, or_false, not_or]; exact ⟨fun e => wdx.2.1 e.symm, fun e => wls.2.1 e.symm⟩) (by intro b hb; simp only [List.mem_cons, List.not_mem_nil, or_false] at hb; rcases hb with rfl | rfl; exact wdx.2.2; exact wls.2.2)
  have keep : ∀ q ∈ own ++ LX w k c, q.1 ≠ k.a.dx → q.1 ≠ k.a.ls → h₂.get? q.1 = some q.2 ∧ q.1 ≠ L ∧ g.get? q.1 = none := fun q hq h1 h2 => ⟨K₂ _ _ (by simp only [List.mem_cons, List.not_mem_nil, or_false, not_or]; exact ⟨h1, h2⟩) (N q hq).1, (N q hq).2⟩
  have N₂ : News g L h₂ (own ++ LX w k ⟨ln₂, tl₂, vs₂, n₂, c.l.tail⟩) := by
    intro q hq
    obtain ⟨a1, a2, a3, a4, _⟩ := hk.ap.ls
    obtain ⟨b1, b2, b3, _⟩ := hk.ap.dx
    rcases List.mem_append.mp hq with hq | hq
    · exact keep q (List.mem_append_left _ hq) (how q hq).1 (how q hq).2
    · rcases List.mem_cons.mp hq with rfl | hq
      · exact keep _ (List.mem_append_right _ (.head _)) b1 a1
      · rcases List.mem_cons.mp hq with rfl | hq
        · exact ⟨ed, wdx.2⟩
        · rcases List.mem_cons.mp hq with rfl | hq
          · exact keep _ (List.mem_append_right _ (.tail _ (.tail _ (.head _)))) b2 a3
          · rcases List.mem_cons.mp hq with rfl | hq
            · exact keep _ (List.mem_append_right _ (.tail _ (.tail _ (.tail _ (.head _))))) b3 a4
            · rcases List.mem_append.mp hq with hq | hq
              · exact keep _ (List.mem_append_right _ (.tail _ (.tail _ (.tail _ (.tail _ (List.mem_append_left _ hq)))))) (hk.ap.fix q hq).2 (hk.ap.fix q hq).1
              · rw [List.mem_singleton.mp hq]; exact ⟨els, wls.2⟩
  refine h _ _ ⟨ln₂, tl₂, vs₂, n₂, c.l.tail⟩ _ F₂ N₂ rfl (fun hne => ?_)
  have hpos : 0 < c.l.length := List.length_pos_iff.mpr hne
  refine ⟨hv₂, ?_, hge, ?_⟩
  · show c.l.tail.length ≤ _
    rw [List.length_tail]; omega
  · show ln₂ + (c.l.tail.length : Int) ≤ _
    rw [List.length_tail]; omega
/-- whiles over an iterator -/
theorem for_ci {σ : Type} {w : World} {A : Around} {s : Shared} {env : Env} {g : Heap} {L : Addr} {x : Str} {px : Pos} {body : List Stmt} {it : Addr} {m₀ : Str → Option Value} {Q : Flow → Shared → Prop} (ps : σ → List (Str × Value)) (Led : σ → List (Addr × Obj)) (P : σ → Prop) (μ : σ → Nat) (c₀ : σ)
    (F : Fr g L s.heap m₀) (hps : ∀ p ∈ ps c₀, m₀ p.1 = some p.2) (N : News g L s.heap (Led c₀)) (hP : P c₀)
    (turn : ∀ c u h tk, P c → Fr g L h (kstB u (ps c)) → News g L h (Led c) →
      wpAny (model PP w) A (pyNext (.ref it)) (fun r s₁ => match r with
        | none => Q .next s₁
        | some v => wpAny (model PP w) A (assign (.Name x px) env v) (fun _ s₂ => wpAny (model PP w) A (execs body env) (WPost g L ps Led P μ s c Q) (fun _ _ => False) s₂) (fun _ _ => False) s₁) (fun _ _ => False) { s with heap := h, toks := tk }) :
    codeAny (model PP w) A (.forLoop (.Name x px) (.ref it) body [] env) (fun r s' => match r with | .ok f => Q f s' | .error e => cameBackBy (model PP w) A env (fun _ _ => False) e s') s := by
  refine codeAny_forLoop (fun n s₁ => ∃ c u h tk, s₁ = { s with heap := h, toks := tk } ∧ P c ∧ Fr g L h (kstB u (ps c)) ∧ News g L h (Led c) ∧ n = μ c) ?_ (μ c₀)
    ⟨c₀, m₀, s.heap, s.toks, rfl, hP, by rw [kstB_self hps]; exact F, N, rfl⟩
  rintro n s₁ ⟨c, u, h, tk, rfl, hP', F', N', rfl⟩
  refine wpAny_mono (turn c u h tk hP' F' N') (fun r s₂ hr => ?_) fun _ _ x => x.elim
  cases r with
  | none => exact wpAny_execs_nil hr
  | some v =>
    refine wpAny_mono hr (fun _ s₃ h₃ => wpAny_mono h₃ (fun f s₄ hf => ?_) fun _ _ x => x.elim) fun _ _ x => x.elim
    have up : WEnd g L ps Led P μ s c s₄ → ∃ m, m < μ c ∧ ∃ c u h tk, s₄ = { s with heap := h, toks := tk } ∧ P c ∧ Fr g L h (kstB u (ps c)) ∧ News g L h (Led c) ∧ m = μ c := by
      rintro ⟨c', m', h', tk', rfl, F₃, hp₃, N₃, hP₃, hlt⟩
      exact ⟨μ c', hlt, c', m', h', tk', rfl, hP₃, by rw [kstB_self hp₃]; exact F₃, N₃, rfl⟩
    cases f with
    | ret v => exact hf
    | brk => exact hf
    | next => exact up hf
    | cont => exact up hf
theorem LX_addr {w : World} {k : LxK} {c c' : LxS} : (LP k :: LX w k c).map (·.1) = (LP k :: LX w k c').map (·.1) := by simp [LX, LP]
theorem LX_apart {w : World} {k : LxK} {c : LxS} {b : Addr} (h : ∀ p ∈ LP k :: LX w k c, p.1 ≠ b) (c' : LxS) : ∀ p ∈ LP k :: LX w k c', p.1 ≠ b := by
  intro p hp e
  have : p.1 ∈ (LP k :: LX w k c).map (·.1) := by rw [LX_addr (c' := c')]; exact List.mem_map_of_mem hp
  obtain ⟨q, hq, he⟩ := List.mem_map.mp this
  exact h q hq (he.trans e)
theorem look158 (w : World) : ∃ oc od fd sl, (hd.heap_1 w.params).lookup 158 = some ⟨oc, od, .func fd, sl⟩ := by
  have e : fnIn (hd.heap_1 w.params) 158 = true := by kernel_rfl
  unfold fnIn at e
  split at e
  · rename_i hx
    exact ⟨_, _, _, _, hx⟩
  · cases e
theorem next_step {w : World} {dp un : Nat} {fr gd} {s : Shared} {g : Heap} {L : Addr} {m : Str → Option Value} {p : Program} {loose : List Str} {mg mb : Str → Option Value} {k : LxK} {c : LxS} {it q : Addr} {ts : Tok} {Qn : Option Value → Shared → Prop} {E : Value → Shared → Prop}
    (X : (hd.heap_1 w.params).In g) (T : TopRead p loose mg mb g) (F : Fr g L s.heap m) (N : News g L s.heap ((it, ciObj q ts) :: (q, methodObj (.ref 158) (.ref k.a.x)) :: LP k :: LX w k c)) (hk : LxOk w k) (hc : LxP c)
    (hit : ∀ p ∈ LP k :: LX w k c, p.1 ≠ it) (hq : ∀ p ∈ LP k :: LX w k c, p.1 ≠ q) (hdp : dp < 880) (hu : un < 8800)
    (hsome : ∀ ch r h' tk c' u, c.l = ch :: r → Fr g L h' m → News g L h' ((it, ciObj q ts) :: (q, methodObj (.ref 158) (.ref k.a.x)) :: LP k :: LX w k c') → c'.l = r → LxP c' → Qn (some (.str (sx [ch]) u)) { s with heap := h', toks := tk })
    (hnone : ∀ h' tk c', c.l = [] → Fr g L h' m → News g L h' (LP k :: LX w k c') → c'.l = [] → Qn none { s with heap := h', toks := tk }) :
    wpAny (model PP w) (AA dp un fr gd) (pyNext (.ref it)) Qn E s := by
  obtain ⟨oc, od, fd, sl, hl158⟩ := look158 w
  have hf := (X.keeps F.keep) _ _ hl158
  have ndx : k.a.dx ≠ it ∧ k.a.ls ≠ it := ⟨hit _ (.tail _ (.tail _ (.head _))), hit _ (.tail _ (.tail _ (.tail _ (.tail _ (.tail _ (List.mem_append_right _ (.head _)))))))⟩
  have ndq : k.a.dx ≠ q ∧ k.a.ls ≠ q := ⟨hq _ (.tail _ (.tail _ (.head _))), hq _ (.tail _ (.tail _ (.tail _ (.tail _ (.tail _ (List.mem_append_right _ (.head _)))))))⟩
  refine ci_next_rule (f := 158) (x := k.a.x) rfl (N _ (.head _)).1 (N _ (.tail _ (.head _))).1 hf ?_
  refine read_step (own := [(it, ciObj q ts), (q, methodObj (.ref 158) (.ref k.a.x)), LP k]) X T F N hk hc ?_ (by show dp < 890; omega) (by show un + _ < 8900; omega) ?_
  · intro r hr
    simp only [List.mem_cons, List.not_mem_nil, or_false] at hr
    rcases hr with rfl | rfl | rfl
    · exact ⟨ndx.1.symm, ndx.2.symm⟩
    · exact ⟨ndq.1.symm, ndq.2.symm⟩
    · exact ⟨hk.ap.dx.2.2.2, hk.ap.ls.2.2.2.2⟩
  intro h' tk c' u F' N' hcl hP'
  refine ⟨c.l.take 1, u, rfl, (N' _ (.head _)).1, (N' _ (.tail _ (.head _))).1, (X.keeps F'.keep) _ _ hl158, ?_, ?_⟩
  · intro hne
    cases hcc : c.l with
    | nil => rw [hcc] at hne; exact absurd rfl hne
    | cons ch r =>
      rw [hcc] at hcl
      exact hsome ch r h' tk c' u hcc F' N' hcl (hP' (by rw [hcc]; simp))
  · intro he h'' hx
    have hnil : c.l = [] := by
      cases hcc : c.l with
      | nil => rfl
      | cons ch r => rw [hcc] at he; simp at he
    have hitn := N' _ (.head _)
    refine hnone h'' tk c' hnil (LCg.fr_but F' (fun b o hb e => hx b o (by simpa using hb) e) (Ne.symm hitn.2.1) hitn.2.2) (fun p hp => ?_) (by rw [hcl, hnil]; rfl)
    have z := N' p (.tail _ (.tail _ hp))
    exact ⟨hx _ _ (LX_apart hit c' p hp) z.1, z.2⟩
end Mine
end

section
open PySem PySem.W PySem.Calls PyProof.Rows PySem.MeetsSeq
set_option Elab.async false
set_option maxRecDepth 100000
set_option maxHeartbeats 4000000
set_option linter.unusedVariables false
namespace Mine
theorem fillTk : hd.heap_1 = hd.heap_1 ∧ Challenge.rw_oy0121_01 = Challenge.rw_oy0121_01 := by k_fill; exact ⟨rfl, rfl⟩
noncomputable def wsSet : List Nat := [10, 9, 13, 32]
/-- in quotes -/
noncomputable def tokA : List Nat → List Nat → Option (List Nat × List Nat)
  | [], _ => none
  | c :: r, acc => if c = 34 then some (acc, r) else if c = 92 then (match r with | [] => none | d :: r' => tokA r' (acc ++ [d])) else tokA r (acc ++ [c])
/-- bare -/
noncomputable def tokB : List Nat → List Nat → Option (List Nat × List Nat)
  | [], _ => none
  | c :: r, acc => if c ∈ wsSet then some (acc, r) else if c = 92 then (match r with | [] => none | d :: r' => tokB r' (acc ++ [d])) else tokB r (acc ++ [c])
noncomputable def tokO : List Nat → Option (List Nat × List Nat)
  | [] => some ([], [])
  | c :: r => if c ∈ wsSet then tokO r else if c = 34 then tokA r [] else if c = 92 then (match r with | [] => none | d :: r' => tokB r' [d]) else tokB r [c]
theorem ws_list : (Str.ofString "\n\t\x0d ").cps.toList = wsSet := by decide
theorem ws_no {c : Nat} (h : (Builtin.Str.occurrences (Str.ofString "\n\t\x0d ") (sx [c]) 0 (Str.ofString "\n\t\x0d ").length 1).isEmpty = true) : c ∉ wsSet := ws_list ▸ occ_no h
theorem ws_yes {c : Nat} (h : (Builtin.Str.occurrences (Str.ofString "\n\t\x0d ") (sx [c]) 0 (Str.ofString "\n\t\x0d ").length 1).isEmpty = false) : c ∈ wsSet := ws_list ▸ occ_yes h
theorem sx1_yes {c d : Nat} {x : Str} (hx : x = sx [d]) (h : (sx [c] == x) = true) : c = d := by
  subst hx
  have := congrArg (fun y : Str => y.cps.toList) (eq_of_beq h)
  simpa using this
theorem sx1_no {c d : Nat} {x : Str} (hx : x = sx [d]) (h : (sx [c] == x) = false) : c ≠ d := by
  subst hx
  rintro rfl
  rw [beq_self_eq_true] at h
  exact absurd h (by decide)
theorem LX_same {w : World} {k : LxK} {c c' : LxS} : ∀ p ∈ LP k :: LX w k c, p.1 ∉ [k.a.dx, k.a.ls] → p ∈ LP k :: LX w k c' := by
  intro p hp hn
  simp only [List.mem_cons, List.not_mem_nil, or_false, not_or] at hn
  rcases List.mem_cons.mp hp with rfl | hp
  · exact .head _
  · rcases List.mem_cons.mp hp with rfl | hp
    · exact .tail _ (.head _)
    · rcases List.mem_cons.mp hp with rfl | hp
      · exact absurd rfl hn.1
      · rcases List.mem_cons.mp hp with rfl | hp
        · exact .tail _ (.tail _ (.tail _ (.head _)))
        · rcases List.mem_cons.mp hp with rfl | hp
          · exact .tail _ (.tail _ (.tail _ (.tail _ (.head _))))
          · rcases List.mem_append.mp hp with hp | hp
            · exact .tail _ (.tail _ (.tail _ (.tail _ (.tail _ (List.mem_append_left _ hp)))))
            · rw [List.mem_singleton.mp hp] at hn; exact absurd rfl hn.2
theorem exPs {g : Heap} {L : Addr} {h : Heap} {m : Str → Option Value} {x it : Addr} (_F : Fr g L h m) (e : ∃ tt, ∀ p ∈ [(Str.ofString "self", Value.ref x), (Str.ofString "token", Value.str (sx []) tt), (Str.ofString "fiter", Value.ref it)], m p.1 = some p.2) :
    ∃ tt, ∀ p ∈ [(Str.ofString "self", Value.ref x), (Str.ofString "token", Value.str (sx []) tt), (Str.ofString "fiter", Value.ref it)], m p.1 = some p.2 := e
theorem token_call {w : World} {dp un : Nat} {fr gd} {s : Shared} {h₀ : Heap} {k : LxK} {c : LxS} {tok rest : List Nat} {R : Result → Shared → Prop}
    (H : At w h₀ s (LP k :: LX w k c)) (hdp : dp < 870) (hu : un < 8700) (hk : LxOk w k) (hc : LxP c) (ht : tokO c.l = some (tok, rest))
    (h : ∀ h' tk c' u, KeepBut [k.a.dx, k.a.ls] s.heap h' → (∀ q ∈ LX w k c', h'.get? q.1 = some q.2) → c'.l = rest → (tok ≠ [] → LxP c') → R (.ok (.ret (.str (sx tok) u))) { s with heap := h', toks := tk }) :
    codeAny (model PP w) (AA dp un fr gd) (.call (.ref 165) ⟨[.ref k.a.x], []⟩) R s := by
  refine enter (binds := [("self", .ref k.a.x)]) H (by k_is) (by k_is) (by show dp < 1000; omega) (BindsTo.of_eq rfl) (locs rfl) ?_ (by decide)
  intro p loose mg mb g L h₁ hg X T F N hlt
  k_fold
  (repeat' (first | (k_unfold; try dsimp only) | ((fail_if_success (with_reducible (refine stopAt ?_ ?_; rotate_left; first | exact s1 | exact s2 | exact s3 | exact s4 | exact s5 | exact s16 | exact s6 | exact s8 | exact s11 | exact s12 | exact s9 | exact s10 | exact s7))); (fail_if_success (with_reducible first | show LCg.CompSrc _ _ _ _ _ _ _ _ _ _ _ _ _ _ | show LCg.CompEnd _ _ _ _ _ _ _ _ _ _ _ _ _ _)); first | walk1 | (dsimp only; walk1))))
  rename Fr _ _ _ _ => F₁
  rename News _ _ _ _ => N₁
  rename_i tk₁ h₁' q h₂ hq0
  have hq : ∀ p ∈ LP k :: LX w k c, p.1 ≠ q := fun p hp => Nat.ne_of_lt (allLt_mem (l := LP k :: LX w k c) hq0 p hp)
  have hitL : ∀ p ∈ LP k :: LX w k c, p.1 ≠ h₂.objs.size := fun p hp => Nat.ne_of_lt (Heap.lt_size (N₁ p (.tail _ hp)).1)
  refine iter_twoN F₁ N₁ ?_
  intro h₃ it hIT F₂ N₂
  obtain ⟨ts, N₃⟩ : ∃ ts, News g L h₃ ((it, ciObj q ts) :: (q, methodObj (.ref 158) (.ref k.a.x)) :: LP k :: LX w k c) := ⟨_, N₂⟩
  replace hitL : ∀ p ∈ LP k :: LX w k c, p.1 ≠ it := fun p hp => by rw [hIT]; exact hitL p hp
  clear N₂ hIT
  clear N₁ F₁
  try dsimp only
  (repeat' (first | (k_unfold; try dsimp only) | ((fail_if_success (with_reducible (refine stopAt ?_ ?_; rotate_left; first | exact s1 | exact s2 | exact s3 | exact s4 | exact s5 | exact s16 | exact s6 | exact s8 | exact s11 | exact s12 | exact s9 | exact s10 | exact s7))); (fail_if_success (with_reducible first | show LCg.CompSrc _ _ _ _ _ _ _ _ _ _ _ _ _ _ | show LCg.CompEnd _ _ _ _ _ _ _ _ _ _ _ _ _ _)); first | walk1 | (dsimp only; walk1))))
  rename Fr _ _ _ _ => F₄
  rename News _ _ _ _ => N₄
  obtain ⟨tt, hps⟩ := exPs (x := k.a.x) (it := it) F₄ ⟨_, by (repeat' (first | exact fmn | refine fmc (@rfl (Option Value) (some _)) ?_))⟩
  have fin : ∀ h' tk' m' c' u, Fr g L h' m' → News g L h' (LP k :: LX w k c') → c'.l = rest → (tok ≠ [] → LxP c') → R (.ok (.ret (.str (sx tok) u))) { s with heap := h', toks := tk' } :=
    fun h' tk' m' c' u F' N' hl hP => h h' tk' c' u (keep_of hg F' N' LX_same (fun p hp => (H.ws p hp).1)) (fun q hq => (N' q (.tail _ hq)).1) hl hP
  have how : ∀ r ∈ [(it, ciObj q ts), (q, methodObj (.ref 158) (.ref k.a.x)), LP k], r.1 ≠ k.a.dx ∧ r.1 ≠ k.a.ls := by
    have ndx : k.a.dx ≠ it ∧ k.a.ls ≠ it := ⟨hitL _ (.tail _ (.tail _ (.head _))), hitL _ (.tail _ (.tail _ (.tail _ (.tail _ (.tail _ (List.mem_append_right _ (.head _)))))))⟩
    have ndq : k.a.dx ≠ q ∧ k.a.ls ≠ q := ⟨hq _ (.tail _ (.tail _ (.head _))), hq _ (.tail _ (.tail _ (.tail _ (.tail _ (.tail _ (List.mem_append_right _ (.head _)))))))⟩
    intro r hr
    simp only [List.mem_cons, List.not_mem_nil, or_false] at hr
    rcases hr with rfl | rfl | rfl
    · exact ⟨ndx.1.symm, ndx.2.symm⟩
    · exact ⟨ndq.1.symm, ndq.2.symm⟩
    · exact ⟨hk.ap.dx.2.2.2, hk.ap.ls.2.2.2.2⟩
  refine wpAny_For ?_
  (repeat' (first | (k_unfold; try dsimp only) | ((fail_if_success (with_reducible (refine stopAt ?_ ?_; rotate_left; first | exact s1 | exact s2 | exact s3 | exact s4 | exact s5 | exact s16 | exact s6 | exact s8 | exact s11 | exact s12 | exact s9 | exact s10 | exact s7))); (fail_if_success (with_reducible first | show LCg.CompSrc _ _ _ _ _ _ _ _ _ _ _ _ _ _ | show LCg.CompEnd _ _ _ _ _ _ _ _ _ _ _ _ _ _)); first | walk1 | (dsimp only; walk1))))
  refine pyIter_ci (N₄ _ (.head _)).1 ?_
  refine for_ci (σ := LxS) (fun _ => [(Str.ofString "self", Value.ref k.a.x), (Str.ofString "token", Value.str (sx []) tt), (Str.ofString "fiter", Value.ref it)]) (fun c => (it, ciObj q ts) :: (q, methodObj (.ref 158) (.ref k.a.x)) :: LP k :: LX w k c)
    (fun c => LxP c ∧ tokO c.l = some (tok, rest)) (fun c => c.l.length) c F₄ hps N₄ ⟨hc, ht⟩ ?_
  rintro c₅ u₅ h₅ tk₅
  refine ela14 fun hcP hct => ?_
  rintro F₅ N₅
  dsimp only [kstB] at F₅ N₅ ⊢
  refine next_step X T F₅ N₅ hk hcP (LX_apart hitL c₅) (LX_apart hq c₅) (by show dp + 1 < 880; omega) (by show un + _ < 8800; omega) ?_ ?_
  · intro ch r h₆ tk₆ c₆ u₆ hl₆ F₆ N₆ hr₆ hP₆
    rw [hl₆] at hct
    try dsimp only
    (repeat' (first | (k_unfold; try dsimp only) | ((fail_if_success (with_reducible (refine stopAt ?_ ?_; rotate_left; first | exact s1 | exact s2 | exact s3 | exact s4 | exact s5 | exact s16 | exact s6 | exact s8 | exact s11 | exact s12 | exact s9 | exact s10 | exact s7))); (fail_if_success (with_reducible first | show LCg.CompSrc _ _ _ _ _ _ _ _ _ _ _ _ _ _ | show LCg.CompEnd _ _ _ _ _ _ _ _ _ _ _ _ _ _)); first | walk1 | (dsimp only; walk1))))
    · -- a word in quotes
      rename (Builtin.Str.occurrences _ _ _ _ _).isEmpty = true => hws
      rename (sx [ch] == Str.ofString "\"") = true => hqu
      rename Fr _ _ _ _ => F₇
      rename News _ _ _ _ => N₇
      have e34 : ch = 34 := sx1_yes rfl hqu
      subst e34
      simp only [tokO, show (34 : Nat) ∉ wsSet by decide, if_false, if_true] at hct
      refine wpAny_For ?_
      (repeat' (first | (k_unfold; try dsimp only) | ((fail_if_success (with_reducible (refine stopAt ?_ ?_; rotate_left; first | exact s1 | exact s2 | exact s3 | exact s4 | exact s5 | exact s16 | exact s6 | exact s8 | exact s11 | exact s12 | exact s9 | exact s10 | exact s7))); (fail_if_success (with_reducible first | show LCg.CompSrc _ _ _ _ _ _ _ _ _ _ _ _ _ _ | show LCg.CompEnd _ _ _ _ _ _ _ _ _ _ _ _ _ _)); first | walk1 | (dsimp only; walk1))))
      refine pyIter_ci (N₇ _ (.head _)).1 ?_
      refine for_ci (σ := LxS × List Nat × Tok) (fun c => [(Str.ofString "self", Value.ref k.a.x), (Str.ofString "token", Value.str (sx c.2.1) c.2.2), (Str.ofString "fiter", Value.ref it)]) (fun c => (it, ciObj q ts) :: (q, methodObj (.ref 158) (.ref k.a.x)) :: LP k :: LX w k c.1)
        (fun c => LxP c.1 ∧ tokA c.1.l c.2.1 = some (tok, rest) ∧ c.2.1.length + c.1.l.length ≤ 200000) (fun c => c.1.l.length) (c₆, [], tt) F₇ (by (repeat' (first | exact fmn | refine fmc (@rfl (Option Value) (some _)) ?_))) N₇ ⟨hP₆, by rw [hr₆]; exact hct, by have := hP₆.2.1; simp; omega⟩ ?_
      refine elp1 fun c₁₀ acc ta => ?_
      rintro u₁₀ h₁₀ tk₁₀
      refine ela4 fun hcA hctA hlenA => ?_
      rintro F₁₀ N₁₀
      dsimp only [kstB] at hcA hctA hlenA F₁₀ N₁₀ ⊢
      refine next_step X T F₁₀ N₁₀ hk hcA (LX_apart hitL c₁₀) (LX_apart hq c₁₀) (by show dp + 1 < 880; omega) (by show un + _ < 8800; omega) ?_ ?_
      · intro ch₁ r₁ h₁₁ tk₁₁ c₁₁ u₁₁ hl₁₁ F₁₁ N₁₁ hr₁₁ hP₁₁
        rw [hl₁₁] at hctA hlenA
        simp only [List.length_cons] at hlenA
        try dsimp only
        (repeat' (first | (k_unfold; try dsimp only) | ((fail_if_success (with_reducible (refine stopAt ?_ ?_; rotate_left; first | exact s1 | exact s2 | exact s3 | exact s4 | exact s5 | exact s16 | exact s6 | exact s8 | exact s11 | exact s12 | exact s9 | exact s10 | exact s7))); (fail_if_success (with_reducible first | show LCg.CompSrc _ _ _ _ _ _ _ _ _ _ _ _ _ _ | show LCg.CompEnd _ _ _ _ _ _ _ _ _ _ _ _ _ _)); first | walk1 | (dsimp only; walk1))))
        · rename (sx [ch₁] == Str.ofString "\"") = true => hend
          rename Fr _ _ _ _ => F₁₂
          rename News _ _ _ _ => N₁₂
          have e34 : ch₁ = 34 := sx1_yes rfl hend
          subst e34
          rw [tokA.eq_def] at hctA
          simp only [if_true, Option.some.injEq, Prod.mk.injEq] at hctA
          try dsimp only
          rw [hctA.1]
          exact fin _ _ _ c₁₁ ta F₁₂ (fun p hp => N₁₂ p (.tail _ (.tail _ hp))) (by rw [hr₁₁, hctA.2]) (fun _ => hP₁₁)
        · rename (sx [ch₁] == Str.ofString "\\") = true => hb₁
          rename Fr _ _ _ _ => F₁₂
          rename News _ _ _ _ => N₁₂
          have e92 : ch₁ = 92 := sx1_yes rfl hb₁
          subst e92
          cases r₁ with
          | nil => simp [tokA, wsSet] at hctA
          | cons d r' =>
            rw [tokA.eq_def] at hctA
            simp only [show ¬ (92 : Nat) = 34 by decide, if_false, if_true] at hctA
            simp only [List.length_cons] at hlenA
            try dsimp only [List.append_nil]
            refine wpAny_call (read_step (own := [(it, ciObj q ts), (q, methodObj (.ref 158) (.ref k.a.x)), LP k]) X T F₁₂ N₁₂ hk hP₁₁ how (by show dp + 1 < 890; omega) (by show un + _ < 8900; omega) ?_)
            intro h₁₃ tk₁₃ c₁₃ u₁₃ F₁₃ N₁₃ hl₁₃ hP₁₃
            rw [hr₁₁] at hl₁₃ hP₁₃ ⊢
            replace hP₁₃ := hP₁₃ (by simp)
            simp only [List.take_succ_cons, List.take_zero, List.tail_cons] at hl₁₃ ⊢
            replace N₁₃ : News g L h₁₃ ((it, ciObj q ts) :: (q, methodObj (.ref 158) (.ref k.a.x)) :: LP k :: LX w k c₁₃) := N₁₃
            try dsimp only
            (repeat' (first | (k_unfold; try dsimp only) | ((fail_if_success (with_reducible (refine stopAt ?_ ?_; rotate_left; first | exact s1 | exact s2 | exact s3 | exact s4 | exact s5 | exact s16 | exact s6 | exact s8 | exact s11 | exact s12 | exact s9 | exact s10 | exact s7))); (fail_if_success (with_reducible first | show LCg.CompSrc _ _ _ _ _ _ _ _ _ _ _ _ _ _ | show LCg.CompEnd _ _ _ _ _ _ _ _ _ _ _ _ _ _)); first | walk1 | (dsimp only; walk1))))
            rename Fr _ _ _ _ => F₁₅
            rename News _ _ _ _ => N₁₅
            rw [show sx acc ++ sx [d] = sx (acc ++ [d]) from sx_add _ _] at F₁₅
            try dsimp only
            refine WEnd.mk' (c₁₃, acc ++ [d], _) F₁₅ (by (repeat' (first | exact fmn | refine fmc (@rfl (Option Value) (some _)) ?_))) N₁₅ ⟨hP₁₃, by rw [hl₁₃]; exact hctA, ?_⟩ ?_
            · show (acc ++ [d]).length + c₁₃.l.length ≤ _
              rw [hl₁₃]; simp; omega
            · show c₁₃.l.length < c₁₀.l.length
              rw [hl₁₃, hl₁₁]; simp; omega
        · rename (sx [ch₁] == Str.ofString "\\") = false => hb₁
          rename (sx [ch₁] == Str.ofString "\"") = false => hq₁
          rw [tokA.eq_def] at hctA
          simp only [if_neg (sx1_no (d := 34) rfl hq₁), if_neg (sx1_no (d := 92) rfl hb₁)] at hctA
          rename Fr _ _ _ _ => F₁₅
          rename News _ _ _ _ => N₁₅
          rw [show sx acc ++ sx [ch₁] = sx (acc ++ [ch₁]) from sx_add _ _] at F₁₅
          try dsimp only
          refine WEnd.mk' (c₁₁, acc ++ [ch₁], _) F₁₅ (by (repeat' (first | exact fmn | refine fmc (@rfl (Option Value) (some _)) ?_))) N₁₅ ⟨hP₁₁, by rw [hr₁₁]; exact hctA, ?_⟩ ?_
          · show (acc ++ [ch₁]).length + c₁₁.l.length ≤ _
            rw [hr₁₁]; simp; omega
          · show c₁₁.l.length < c₁₀.l.length
            rw [hr₁₁, hl₁₁]; simp
      · intro h₁₁ tk₁₁ c₁₁ hl₁₁ F₁₁ N₁₁ hr₁₁
        rw [hl₁₁] at hctA
        simp [tokA] at hctA
    · -- bare, an escape first
      rename (Builtin.Str.occurrences _ _ _ _ _).isEmpty = true => hws
      rename (sx [ch] == Str.ofString "\"") = false => hqu
      rename (sx [ch] == Str.ofString "\\") = true => hbs
      rename Fr _ _ _ _ => F₇
      rename News _ _ _ _ => N₇
      have e92 : ch = 92 := sx1_yes rfl hbs
      subst e92
      cases r with
      | nil => simp [tokO, wsSet] at hct
      | cons d r' =>
        simp only [tokO, show (92 : Nat) ∉ wsSet by decide, show ¬ (92 : Nat) = 34 by decide, if_false, if_true] at hct
        try dsimp only [List.append_nil]
        refine wpAny_call (read_step (own := [(it, ciObj q ts), (q, methodObj (.ref 158) (.ref k.a.x)), LP k]) X T F₇ N₇ hk hP₆ how (by show dp + 1 < 890; omega) (by show un + _ < 8900; omega) ?_)
        intro h₈ tk₈ c₈ u₈ F₈ N₈ hl₈ hP₈
        rw [hr₆] at hl₈ hP₈ ⊢
        replace hP₈ := hP₈ (by simp)
        simp only [List.take_succ_cons, List.take_zero, List.tail_cons] at hl₈ ⊢
        replace N₈ : News g L h₈ ((it, ciObj q ts) :: (q, methodObj (.ref 158) (.ref k.a.x)) :: LP k :: LX w k c₈) := N₈
        try dsimp only
        (repeat' (first | (k_unfold; try dsimp only) | ((fail_if_success (with_reducible (refine stopAt ?_ ?_; rotate_left; first | exact s1 | exact s2 | exact s3 | exact s4 | exact s5 | exact s16 | exact s6 | exact s8 | exact s11 | exact s12 | exact s9 | exact s10 | exact s7))); (fail_if_success (with_reducible first | show LCg.CompSrc _ _ _ _ _ _ _ _ _ _ _ _ _ _ | show LCg.CompEnd _ _ _ _ _ _ _ _ _ _ _ _ _ _)); first | walk1 | (dsimp only; walk1))))
        rename Fr _ _ _ _ => F₉
        rename News _ _ _ _ => N₉
        rw [show sx [] ++ sx [d] = sx [d] from sx_add [] [d]] at F₉
        refine wpAny_For ?_
        (repeat' (first | (k_unfold; try dsimp only) | ((fail_if_success (with_reducible (refine stopAt ?_ ?_; rotate_left; first | exact s1 | exact s2 | exact s3 | exact s4 | exact s5 | exact s16 | exact s6 | exact s8 | exact s11 | exact s12 | exact s9 | exact s10 | exact s7))); (fail_if_success (with_reducible first | show LCg.CompSrc _ _ _ _ _ _ _ _ _ _ _ _ _ _ | show LCg.CompEnd _ _ _ _ _ _ _ _ _ _ _ _ _ _)); first | walk1 | (dsimp only; walk1))))
        refine pyIter_ci (N₉ _ (.head _)).1 ?_
        refine for_ci (σ := LxS × List Nat × Tok) (fun c => [(Str.ofString "self", Value.ref k.a.x), (Str.ofString "token", Value.str (sx c.2.1) c.2.2), (Str.ofString "fiter", Value.ref it)]) (fun c => (it, ciObj q ts) :: (q, methodObj (.ref 158) (.ref k.a.x)) :: LP k :: LX w k c.1)
          (fun c => LxP c.1 ∧ tokB c.1.l c.2.1 = some (tok, rest) ∧ c.2.1.length + c.1.l.length ≤ 200000) (fun c => c.1.l.length) (c₈, [d], _) F₉ (by (repeat' (first | exact fmn | refine fmc (@rfl (Option Value) (some _)) ?_))) N₉ ⟨hP₈, by rw [hl₈]; exact hct, by have := hP₈.2.1; simp; omega⟩ ?_
        refine elp1 fun c₁₀ acc ta => ?_
        rintro u₁₀ h₁₀ tk₁₀
        refine ela4 fun hcA hctA hlenA => ?_
        rintro F₁₀ N₁₀
        dsimp only [kstB] at hcA hctA hlenA F₁₀ N₁₀ ⊢
        refine next_step X T F₁₀ N₁₀ hk hcA (LX_apart hitL c₁₀) (LX_apart hq c₁₀) (by show dp + 1 < 880; omega) (by show un + _ < 8800; omega) ?_ ?_
        · intro ch₁ r₁ h₁₁ tk₁₁ c₁₁ u₁₁ hl₁₁ F₁₁ N₁₁ hr₁₁ hP₁₁
          rw [hl₁₁] at hctA hlenA
          simp only [List.length_cons] at hlenA
          try dsimp only
          (repeat' (first | (k_unfold; try dsimp only) | ((fail_if_success (with_reducible (refine stopAt ?_ ?_; rotate_left; first | exact s1 | exact s2 | exact s3 | exact s4 | exact s5 | exact s16 | exact s6 | exact s8 | exact s11 | exact s12 | exact s9 | exact s10 | exact s7))); (fail_if_success (with_reducible first | show LCg.CompSrc _ _ _ _ _ _ _ _ _ _ _ _ _ _ | show LCg.CompEnd _ _ _ _ _ _ _ _ _ _ _ _ _ _)); first | walk1 | (dsimp only; walk1))))
          · rename (sx [ch₁] == Str.ofString "\\") = true => hb₁
            rename Fr _ _ _ _ => F₁₂
            rename News _ _ _ _ => N₁₂
            have e92 : ch₁ = 92 := sx1_yes rfl hb₁
            subst e92
            cases r₁ with
            | nil => simp [tokB, wsSet] at hctA
            | cons d r' =>
              rw [tokB.eq_def] at hctA
              simp only [show (92 : Nat) ∉ wsSet by decide, if_false, if_true] at hctA
              simp only [List.length_cons] at hlenA
              try dsimp only [List.append_nil]
              refine wpAny_call (read_step (own := [(it, ciObj q ts), (q, methodObj (.ref 158) (.ref k.a.x)), LP k]) X T F₁₂ N₁₂ hk hP₁₁ how (by show dp + 1 < 890; omega) (by show un + _ < 8900; omega) ?_)
              intro h₁₃ tk₁₃ c₁₃ u₁₃ F₁₃ N₁₃ hl₁₃ hP₁₃
              rw [hr₁₁] at hl₁₃ hP₁₃ ⊢
              replace hP₁₃ := hP₁₃ (by simp)
              simp only [List.take_succ_cons, List.take_zero, List.tail_cons] at hl₁₃ ⊢
              replace N₁₃ : News g L h₁₃ ((it, ciObj q ts) :: (q, methodObj (.ref 158) (.ref k.a.x)) :: LP k :: LX w k c₁₃) := N₁₃
              try dsimp only
              (repeat' (first | (k_unfold; try dsimp only) | ((fail_if_success (with_reducible (refine stopAt ?_ ?_; rotate_left; first | exact s1 | exact s2 | exact s3 | exact s4 | exact s5 | exact s16 | exact s6 | exact s8 | exact s11 | exact s12 | exact s9 | exact s10 | exact s7))); (fail_if_success (with_reducible first | show LCg.CompSrc _ _ _ _ _ _ _ _ _ _ _ _ _ _ | show LCg.CompEnd _ _ _ _ _ _ _ _ _ _ _ _ _ _)); first | walk1 | (dsimp only; walk1))))
              rename Fr _ _ _ _ => F₁₅
              rename News _ _ _ _ => N₁₅
              rw [show sx acc ++ sx [d] = sx (acc ++ [d]) from sx_add _ _] at F₁₅
              try dsimp only
              refine WEnd.mk' (c₁₃, acc ++ [d], _) F₁₅ (by (repeat' (first | exact fmn | refine fmc (@rfl (Option Value) (some _)) ?_))) N₁₅ ⟨hP₁₃, by rw [hl₁₃]; exact hctA, ?_⟩ ?_
              · show (acc ++ [d]).length + c₁₃.l.length ≤ _
                rw [hl₁₃]; simp; omega
              · show c₁₃.l.length < c₁₀.l.length
                rw [hl₁₃, hl₁₁]; simp; omega
          · rename (sx [ch₁] == Str.ofString "\\") = false => hb₁
            rename (Builtin.Str.occurrences _ _ _ _ _).isEmpty = true => hw₁
            rw [tokB.eq_def] at hctA
            simp only [if_neg (ws_no hw₁), if_neg (sx1_no (d := 92) rfl hb₁)] at hctA
            rename Fr _ _ _ _ => F₁₅
            rename News _ _ _ _ => N₁₅
            rw [show sx acc ++ sx [ch₁] = sx (acc ++ [ch₁]) from sx_add _ _] at F₁₅
            try dsimp only
            refine WEnd.mk' (c₁₁, acc ++ [ch₁], _) F₁₅ (by (repeat' (first | exact fmn | refine fmc (@rfl (Option Value) (some _)) ?_))) N₁₅ ⟨hP₁₁, by rw [hr₁₁]; exact hctA, ?_⟩ ?_
            · show (acc ++ [ch₁]).length + c₁₁.l.length ≤ _
              rw [hr₁₁]; simp; omega
            · show c₁₁.l.length < c₁₀.l.length
              rw [hr₁₁, hl₁₁]; simp
          · rename (Builtin.Str.occurrences _ _ _ _ _).isEmpty = false => hend
            rename Fr _ _ _ _ => F₁₂
            rename News _ _ _ _ => N₁₂
            rw [tokB.eq_def] at hctA
            simp only [if_pos (ws_yes hend), Option.some.injEq, Prod.mk.injEq] at hctA
            try dsimp only
            rw [hctA.1]
            exact fin _ _ _ c₁₁ ta F₁₂ (fun p hp => N₁₂ p (.tail _ (.tail _ hp))) (by rw [hr₁₁, hctA.2]) (fun _ => hP₁₁)
        · intro h₁₁ tk₁₁ c₁₁ hl₁₁ F₁₁ N₁₁ hr₁₁
          rw [hl₁₁] at hctA
          simp [tokB] at hctA
    · -- bare
      rename (Builtin.Str.occurrences _ _ _ _ _).isEmpty = true => hws
      rename (sx [ch] == Str.ofString "\"") = false => hqu
      rename (sx [ch] == Str.ofString "\\") = false => hbs
      rename Fr _ _ _ _ => F₉
      rename News _ _ _ _ => N₉
      simp only [tokO, if_neg (ws_no hws), if_neg (sx1_no (d := 34) rfl hqu), if_neg (sx1_no (d := 92) rfl hbs)] at hct
      rw [show sx [] ++ sx [ch] = sx [ch] from sx_add [] [ch]] at F₉
      refine wpAny_For ?_
      (repeat' (first | (k_unfold; try dsimp only) | ((fail_if_success (with_reducible (refine stopAt ?_ ?_; rotate_left; first | exact s1 | exact s2 | exact s3 | exact s4 | exact s5 | exact s16 | exact s6 | exact s8 | exact s11 | exact s12 | exact s9 | exact s10 | exact s7))); (fail_if_success (with_reducible first | show LCg.CompSrc _ _ _ _ _ _ _ _ _ _ _ _ _ _ | show LCg.CompEnd _ _ _ _ _ _ _ _ _ _ _ _ _ _)); first | walk1 | (dsimp only; walk1))))
      refine pyIter_ci (N₉ _ (.head _)).1 ?_
      refine for_ci (σ := LxS × List Nat × Tok) (fun c => [(Str.ofString "self", Value.ref k.a.x), (Str.ofString "token", Value.str (sx c.2.1) c.2.2), (Str.ofString "fiter", Value.ref it)]) (fun c => (it, ciObj q ts) :: (q, methodObj (.ref 158) (.ref k.a.x)) :: LP k :: LX w k c.1)
        (fun c => LxP c.1 ∧ tokB c.1.l c.2.1 = some (tok, rest) ∧ c.2.1.length + c.1.l.length ≤ 200000) (fun c => c.1.l.length) (c₆, [ch], _) F₉ (by (repeat' (first | exact fmn | refine fmc (@rfl (Option Value) (some _)) ?_))) N₉ ⟨hP₆, by rw [hr₆]; exact hct, by have := hP₆.2.1; simp; omega⟩ ?_
      refine elp1 fun c₁₀ acc ta => ?_
      rintro u₁₀ h₁₀ tk₁₀
      refine ela4 fun hcA hctA hlenA => ?_
      rintro F₁₀ N₁₀
      dsimp only [kstB] at hcA hctA hlenA F₁₀ N₁₀ ⊢
      refine next_step X T F₁₀ N₁₀ hk hcA (LX_apart hitL c₁₀) (LX_apart hq c₁₀) (by show dp + 1 < 880; omega) (by show un + _ < 8800; omega) ?_ ?_
      · intro ch₁ r₁ h₁₁ tk₁₁ c₁₁ u₁₁ hl₁₁ F₁₁ N₁₁ hr₁₁ hP₁₁
        rw [hl₁₁] at hctA hlenA
        simp only [List.length_cons] at hlenA
        try dsimp only
        (repeat' (first | (k_unfold; try dsimp only) | ((fail_if_success (with_reducible (refine stopAt ?_ ?_; rotate_left; first | exact s1 | exact s2 | exact s3 | exact s4 | exact s5 | exact s16 | exact s6 | exact s8 | exact s11 | exact s12 | exact s9 | exact s10 | exact s7))); (fail_if_success (with_reducible first | show LCg.CompSrc _ _ _ _ _ _ _ _ _ _ _ _ _ _ | show LCg.CompEnd _ _ _ _ _ _ _ _ _ _ _ _ _ _)); first | walk1 | (dsimp only; walk1))))
        · rename (sx [ch₁] == Str.ofString "\\") = true => hb₁
          rename Fr _ _ _ _ => F₁₂
          rename News _ _ _ _ => N₁₂
          have e92 : ch₁ = 92 := sx1_yes rfl hb₁
          subst e92
          cases r₁ with
          | nil => simp [tokB, wsSet] at hctA
          | cons d r' =>
            rw [tokB.eq_def] at hctA
            simp only [show (92 : Nat) ∉ wsSet by decide, if_false, if_true] at hctA
            simp only [List.length_cons] at hlenA
            try dsimp only [List.append_nil]
            refine wpAny_call (read_step (own := [(it, ciObj q ts), (q, methodObj (.ref 158) (.ref k.a.x)), LP k]) X T F₁₂ N₁₂ hk hP₁₁ how (by show dp + 1 < 890; omega) (by show un + _ < 8900; omega) ?_)
            intro h₁₃ tk₁₃ c₁₃ u₁₃ F₁₃ N₁₃ hl₁₃ hP₁₃
            rw [hr₁₁] at hl₁₃ hP₁₃ ⊢
            replace hP₁₃ := hP₁₃ (by simp)
            simp only [List.take_succ_cons, List.take_zero, List.tail_cons] at hl₁₃ ⊢
            replace N₁₃ : News g L h₁₃ ((it, ciObj q ts) :: (q, methodObj (.ref 158) (.ref k.a.x)) :: LP k :: LX w k c₁₃) := N₁₃
            try dsimp only
            (repeat' (first | (k_unfold; try dsimp only) | ((fail_if_success (with_reducible (refine stopAt ?_ ?_; rotate_left; first | exact s1 | exact s2 | exact s3 | exact s4 | exact s5 | exact s16 | exact s6 | exact s8 | exact s11 | exact s12 | exact s9 | exact s10 | exact s7))); (fail_if_success (with_reducible first | show LCg.CompSrc _ _ _ _ _ _ _ _ _ _ _ _ _ _ | show LCg.CompEnd _ _ _ _ _ _ _ _ _ _ _ _ _ _)); first | walk1 | (dsimp only; walk1))))
            rename Fr _ _ _ _ => F₁₅
            rename News _ _ _ _ => N₁₅
            rw [show sx acc ++ sx [d] = sx (acc ++ [d]) from sx_add _ _] at F₁₅
            try dsimp only
            refine WEnd.mk' (c₁₃, acc ++ [d], _) F₁₅ (by (repeat' (first | exact fmn | refine fmc (@rfl (Option Value) (some _)) ?_))) N₁₅ ⟨hP₁₃, by rw [hl₁₃]; exact hctA, ?_⟩ ?_
            · show (acc ++ [d]).length + c₁₃.l.length ≤ _
              rw [hl₁₃]; simp; omega
            · show c₁₃.l.length < c₁₀.l.length
              rw [hl₁₃, hl₁₁]; simp; omega
        · rename (sx [ch₁] == Str.ofString "\\") = false => hb₁
          rename (Builtin.Str.occurrences _ _ _ _ _).isEmpty = true => hw₁
          rw [tokB.eq_def] at hctA
          simp only [if_neg (ws_no hw₁), if_neg (sx1_no (d := 92) rfl hb₁)] at hctA
          rename Fr _ _ _ _ => F₁₅
          rename News _ _ _ _ => N₁₅
          rw [show sx acc ++ sx [ch₁] = sx (acc ++ [ch₁]) from sx_add _ _] at F₁₅
          try dsimp only
          refine WEnd.mk' (c₁₁, acc ++ [ch₁], _) F₁₅ (by (repeat' (first | exact fmn | refine fmc (@rfl (Option Value) (some _)) ?_))) N₁₅ ⟨hP₁₁, by rw [hr₁₁]; exact hctA, ?_⟩ ?_
          · show (acc ++ [ch₁]).length + c₁₁.l.length ≤ _
            rw [hr₁₁]; simp; omega
          · show c₁₁.l.length < c₁₀.l.length
            rw [hr₁₁, hl₁₁]; simp
        · rename (Builtin.Str.occurrences _ _ _ _ _).isEmpty = false => hend
          rename Fr _ _ _ _ => F₁₂
          rename News _ _ _ _ => N₁₂
          rw [tokB.eq_def] at hctA
          simp only [if_pos (ws_yes hend), Option.some.injEq, Prod.mk.injEq] at hctA
          try dsimp only
          rw [hctA.1]
          exact fin _ _ _ c₁₁ ta F₁₂ (fun p hp => N₁₂ p (.tail _ (.tail _ hp))) (by rw [hr₁₁, hctA.2]) (fun _ => hP₁₁)
      · intro h₁₁ tk₁₁ c₁₁ hl₁₁ F₁₁ N₁₁ hr₁₁
        rw [hl₁₁] at hctA
        simp [tokB] at hctA
    · -- blank
      rename (Builtin.Str.occurrences _ _ _ _ _).isEmpty = false => hws
      rename Fr _ _ _ _ => F₇
      rename News _ _ _ _ => N₇
      simp only [tokO, if_pos (ws_yes hws)] at hct
      try dsimp only
      refine WEnd.mk' c₆ F₇ (by (repeat' (first | exact fmn | refine fmc (@rfl (Option Value) (some _)) ?_))) N₇ ⟨hP₆, by rw [hr₆]; exact hct⟩ ?_
      show c₆.l.length < c₅.l.length
      rw [hr₆, hl₆]; simp
  · intro h₆ tk₆ c₆ hl₆ F₆ N₆ hr₆
    rw [hl₆] at hct
    try dsimp only
    (repeat' (first | (k_unfold; try dsimp only) | ((fail_if_success (with_reducible (refine stopAt ?_ ?_; rotate_left; first | exact s1 | exact s2 | exact s3 | exact s4 | exact s5 | exact s16 | exact s6 | exact s8 | exact s11 | exact s12 | exact s9 | exact s10 | exact s7))); (fail_if_success (with_reducible first | show LCg.CompSrc _ _ _ _ _ _ _ _ _ _ _ _ _ _ | show LCg.CompEnd _ _ _ _ _ _ _ _ _ _ _ _ _ _)); first | walk1 | (dsimp only; walk1))))
    simp only [tokO, Option.some.injEq, Prod.mk.injEq] at hct
    try dsimp only
    rw [hct.1]
    exact fin _ _ _ c₆ tt F₆ N₆ (by rw [hr₆, hct.2]) (fun hne => absurd hct.1.symm hne)
end Mine
end

section
open PySem PySem.W PySem.Calls PyProof.Rows PySem.MeetsSeq
set_option Elab.async false
set_option maxRecDepth 100000
set_option maxHeartbeats 4000000
set_option linter.unusedVariables false
namespace Mine
theorem fillIn : hd.heap_1 = hd.heap_1 ∧ Challenge.rw_oy0121_01 = Challenge.rw_oy0121_01 := by k_fill; exact ⟨rfl, rfl⟩
theorem list_textN {w : World} {A : Around} {E : Value → Shared → Prop} {s : Shared} {g : Heap} {L : Addr} {m : Str → Option Value} {news : List (Addr × Obj)} {l : List Nat} {t : Tok} {Q : Value → Shared → Prop} (hh : A.handled = none) (F : Fr g L s.heap m) (N : News g L s.heap news) (hl : l.length ≤ 100000)
    (h : ∀ h' tk vs n D, Fr g L h' m → News g L h' ((D, listOf vs.toArray n) :: news) → (∀ p ∈ news, p.1 < D) → signsAre vs l → Q (.ref D) { s with heap := h', toks := tk }) :
    wpAny (model PP w) A (call (.type "list") [.str (sx l) t]) Q E s := by
  refine list_strD hh F N ?_ (by rw [sizeLine_eq]; show l.length ≤ _; omega)
  intro h' tk ys F' N' hk hg _ hp hc
  obtain ⟨⟨n, e⟩, hne⟩ := hp
  refine h h' tk ys n _ F' (fun p hp => ?_) (fun p hp => Heap.lt_size (N p hp).1) ?_
  · (revert p; refine fmc ?_ fun p hp => ?_)
    · exact ⟨e, Nat.ne_of_gt F.ns.lt, hg⟩
    · exact N' p hp
  · have : (signs (sx l)).map PyData.str = (l.map fun c => sx [c]).map PyData.str := by unfold signs; simp
    rw [this] at hc
    exact StrsAre.of_carried hc
theorem init_call {w : World} {dp un : Nat} {fr gd} {s : Shared} {h₀ : Heap} {x dx st : Addr} {R : Result → Shared → Prop} (H : At w h₀ s [(x, instObj 175 dx), (dx, dictOf [] 0)]) (hdp : dp < 880) (hu : un < 8800) (hlt : dx < x)
    (h : ∀ h' tk pb tl k1 k2 k3 k4 tw, KeepBut [dx] s.heap h' → (∀ a : LxA, a.st = st → a.pb = pb → h'.get? dx = some (lexDict w a 1 tl k1 k2 k3 k4 tw)) → s.heap.get? pb = none → h'.get? pb = some (listOf (#[] : Array Value) 0) → R (.ok (.ret .none)) { s with heap := h', toks := tk }) :
    codeAny (model PP w) (AA dp un fr gd) (.call (.ref 151) ⟨[.ref x, .ref st], []⟩) R s := by
  refine enter (binds := [("self", .ref x), ("fp", .ref st)]) H (by k_is) (by k_is) (by show dp < 1000; omega) (BindsTo.of_eq rfl) (locs rfl) ?_ (by decide)
  intro p loose mg mb g L h₁ hg X T F N hlt'
  k_fold
  (repeat' (first | (k_unfold; try dsimp only) | ((fail_if_success (with_reducible (refine stopAt ?_ ?_; rotate_left; first | exact s1 | exact s2 | exact s3 | exact s4 | exact s5 | exact s16 | exact s6 | exact s8 | exact s11 | exact s12 | exact s9 | exact s10 | exact s7))); (fail_if_success (with_reducible first | show LCg.CompSrc _ _ _ _ _ _ _ _ _ _ _ _ _ _ | show LCg.CompEnd _ _ _ _ _ _ _ _ _ _ _ _ _ _)); first | walk1 | (dsimp only; walk1))))
  refine set_dict F X N (by k_inst) rfl (by k_is) (by k_is) (by k_is) (by k_is) (by k_get) (by k_put) (Upd.tail (Nat.ne_of_gt hlt) (Upd.head (fun _ hq => nomatch hq))) (Nat.le_of_ble_eq_true rfl) ?_
  intro h₁ F₁ N₁
  rename Tok => tk₀
  (repeat' (first | (k_unfold; try dsimp only) | ((fail_if_success (with_reducible (refine stopAt ?_ ?_; rotate_left; first | exact s1 | exact s2 | exact s3 | exact s4 | exact s5 | exact s16 | exact s6 | exact s8 | exact s11 | exact s12 | exact s9 | exact s10 | exact s7))); (fail_if_success (with_reducible first | show LCg.CompSrc _ _ _ _ _ _ _ _ _ _ _ _ _ _ | show LCg.CompEnd _ _ _ _ _ _ _ _ _ _ _ _ _ _)); first | walk1 | (dsimp only; walk1))))
  refine set_dict F₁ X N₁ (by k_inst) rfl (by k_is) (by k_is) (by k_is) (by k_is) (by k_get) (by k_put) (Upd.tail (Nat.ne_of_gt hlt) (Upd.head (fun _ hq => nomatch hq))) (Nat.le_of_ble_eq_true rfl) ?_
  intro h₂ F₂ N₂
  (repeat' (first | (k_unfold; try dsimp only) | ((fail_if_success (with_reducible (refine stopAt ?_ ?_; rotate_left; first | exact s1 | exact s2 | exact s3 | exact s4 | exact s5 | exact s16 | exact s6 | exact s8 | exact s11 | exact s12 | exact s9 | exact s10 | exact s7))); (fail_if_success (with_reducible first | show LCg.CompSrc _ _ _ _ _ _ _ _ _ _ _ _ _ _ | show LCg.CompEnd _ _ _ _ _ _ _ _ _ _ _ _ _ _)); first | walk1 | (dsimp only; walk1))))
  refine set_dict F₂ X N₂ (by k_inst) rfl (by k_is) (by k_is) (by k_is) (by k_is) (by k_get) (by k_put) (Upd.tail (Nat.ne_of_gt hlt) (Upd.head (fun _ hq => nomatch hq))) (Nat.le_of_ble_eq_true rfl) ?_
  intro h₃ F₃ N₃
  (repeat' (first | (k_unfold; try dsimp only) | ((fail_if_success (with_reducible (refine stopAt ?_ ?_; rotate_left; first | exact s1 | exact s2 | exact s3 | exact s4 | exact s5 | exact s16 | exact s6 | exact s8 | exact s11 | exact s12 | exact s9 | exact s10 | exact s7))); (fail_if_success (with_reducible first | show LCg.CompSrc _ _ _ _ _ _ _ _ _ _ _ _ _ _ | show LCg.CompEnd _ _ _ _ _ _ _ _ _ _ _ _ _ _)); first | walk1 | (dsimp only; walk1))))
  rename News _ _ _ _ => N₅
  rename Fr _ _ _ _ => F₅
  rename (_ < _) ∧ (_ < _) => l1
  dsimp only at F₅ N₅ ⊢
  refine set_dict F₅ X N₅ (by k_inst) rfl (by k_is) (by k_is) (by k_is) (by k_is) (by k_get) (by k_put) (Upd.tail (Nat.ne_of_gt l1.2) (Upd.tail (Nat.ne_of_gt hlt) (Upd.head (fun _ hq => nomatch hq)))) (Nat.le_of_ble_eq_true rfl) ?_
  intro h₆ F₆ N₆
  dsimp only
  (repeat' (first | (k_unfold; try dsimp only) | ((fail_if_success (with_reducible (refine stopAt ?_ ?_; rotate_left; first | exact s1 | exact s2 | exact s3 | exact s4 | exact s5 | exact s16 | exact s6 | exact s8 | exact s11 | exact s12 | exact s9 | exact s10 | exact s7))); (fail_if_success (with_reducible first | show LCg.CompSrc _ _ _ _ _ _ _ _ _ _ _ _ _ _ | show LCg.CompEnd _ _ _ _ _ _ _ _ _ _ _ _ _ _)); first | walk1 | (dsimp only; walk1))))
  refine h h₆ tk _ tk₀ (tk₀ + 1 + 1) (tk₀ + 1 + 2 + 1) (tk₀ + 1 + 2 + 2 + 1 + 1) (tk₀ + 1 + 2 + 2 + 1 + 2 + 1) (tk₀ + 1 + 2 + 2) (keep_of hg F₆ N₆ ?_ (fun p hp => (H.ws p hp).1)) ?_ ?_ (N₆ _ (.head _)).1
  · intro p hp hn
    rcases List.mem_cons.mp hp with rfl | hp
    · exact .tail _ (.head _)
    · rcases List.mem_cons.mp hp with rfl | hp
      · exact absurd (.head _) hn
      · nomatch hp
  · intro a h1 h2
    subst h1 h2
    exact (N₆ _ (.tail _ (.tail _ (.head _)))).1
  · cases e : s.heap.get? _ with
    | none => rfl
    | some o =>
      have h1 := (N₆ _ (.head _)).2.2
      rw [hg, hideAll_get _ e (by simp only [List.map_cons, List.map_nil, List.mem_cons, List.not_mem_nil, or_false, not_or]; exact ⟨Nat.ne_of_gt l1.1, Nat.ne_of_gt l1.2⟩)] at h1
      exact h1
end Mine
end

section
open PySem PySem.W PySem.Calls PyProof.Rows PySem.MeetsSeq
set_option Elab.async false
set_option maxRecDepth 100000
set_option maxHeartbeats 4000000
set_option linter.unusedVariables false
namespace Mine
theorem fillWd : hd.heap_1 = hd.heap_1 ∧ Challenge.rw_oy0121_01 = Challenge.rw_oy0121_01 := by k_fill; exact ⟨rfl, rfl⟩
theorem enterN {w : World} {A : Around} {s : Shared} {h₀ : Heap} {ws : List (Addr × Obj)} {R : Result → Shared → Prop} {name qual : Str} {params : Arguments} {body : List Stmt} {scope : Scope} {doc pm ct : Value} {cl : List (Str × Addr)} {f c' : Addr} {oc : Obj} {vs : Array Value} {tq : Tok} {args : Args} {binds : List (Str × Value)}
    (H : At w h₀ s ws)
    (hm : (f, fnMade name qual params body scope cl doc pm c' ct) ∈ ws) (hc : (c', oc) ∈ ws) (hdc : oc.data = .fields vs) (hvs : vs[1]? = some (.str qual tq)) (hroom : A.depth < recursionLimit)
    (hbind : BindsTo s (fnX name qual params body scope cl .none .none doc pm none (.ref c') ct) args binds) (hloc : ∀ y ∈ binds, scope.names.lookup y.1 = some .local)
    (h : ∀ p loose mg mb g L' h₁, g = hideAll s.heap (ws.map (·.1)) → (hd.heap_1 w.params).In g → TopRead p loose mg mb g → Fr g L' h₁ (fun y => binds.reverse.lookup y) → News g L' h₁ ws → (∀ p ∈ ws, p.1 < L') →
      wpAny (model PP w) (A.deeper (envX qual scope L' f (.ref c') cl)) (execs body (envX qual scope L' f (.ref c') cl))
        (fun fl s' => R (.ok (.ret (match fl with | .ret v => v | _ => .none))) s') (fun _ _ => False)
        { s with heap := h₁, toks := s.toks + binds.length })
    (hcell : ∀ x ∈ scope.names, x.2 ≠ .cell) (hco : scope.isCoroutine = false := by rfl) (hgen : scope.isGenerator = false := by rfl) (hk : scope.kind = .function := by rfl) :
    codeAny (model PP w) A (.call (.ref f) args) R s := by
  have G := H.gd.keeps H.keep
  obtain ⟨p, l, mg, mb, T⟩ := G.top
  refine codeAny_call_def (fd := fnX name qual params body scope cl .none .none doc pm none (.ref c') ct) (body := body) (binds := binds) hroom (H.ws _ hm).1 rfl T.nolimit ⟨c', oc, vs, tq, rfl, (H.ws _ hc).1, hdc, hvs⟩ rfl hbind hcell hloc (fun h₁ hns hk₁ => ?_) hco hgen hk
  have G' := H.hide
  obtain ⟨p', l', mg', mb', T'⟩ := G'.top
  refine wpAny_mono (h p' l' mg' mb' _ s.heap.objs.size h₁ rfl G'.kin T' ⟨hns, fun b o e => hk₁ b o (of_hideAll _ e), Nat.le_of_eq (hideAll_size _ _)⟩
    (fun p hp => ⟨hk₁ _ _ (H.ws p hp).1, Nat.ne_of_lt (Heap.lt_size (H.ws p hp).1), hideAll_none _ (List.mem_map_of_mem hp)⟩) (fun p hp => Heap.lt_size (H.ws p hp).1)) (fun _ _ y => y) fun _ _ y => y.elim
noncomputable def tab1 (c1 : Addr) : Array Value := #[rawInt 253, rawInt 4, .ref c1]
noncomputable def tab2 (c1 c2 : Addr) : Array Value := #[rawInt 253, rawInt 4, .ref c1, rawInt 255, rawInt 13, .ref c2]
noncomputable abbrev readQ : Str := Str.ofString "_law_words" ++ ".<locals>." ++ Str.ofString "read"
/-- the record of the code of read -/
noncomputable def RecR (oc : Obj) : Prop := ∃ vs t, oc.data = .fields vs ∧ vs[1]? = some (.str readQ t)
noncomputable def TabSt (ps : Array Value) (cs : List (Addr × Obj)) : Prop := (ps = #[] ∧ cs = []) ∨ ∃ c1 c2 oc, ps = tab2 c1 c2 ∧ cs = [(c1, oc)] ∧ RecR oc ∧ c1 ≠ 196
section
variable {w : World} {A : Around} {E : Value → Shared → Prop} {s : Shared} {g : Heap} {L a : Addr} {m mg mb : Str → Option Value} {cn : Str} {csc : Scope} {cl clos : List (Str × Addr)} {pre cs : List (Addr × Obj)} {ps : Array Value}
  {p : Program} {loose : List Str} {mean : ExcName → Option Value} {name : Str} {params : Arguments} {scope : Scope} {pos : Pos} {firstLine : Nat} {Q : Value → Shared → Prop}
theorem def_any {body : List Stmt} (F : Fr g L s.heap m) (N : News g L s.heap (pre ++ (196, tabObj ps) :: cs)) (hT : TabSt ps cs) (T : Top p loose mean mg mb g) (C : CodeHd g 200 196) (hcl : closureFor scope (envX cn csc L a (.ref 200) cl) = pure clos)
    (hp1 : pos.line = 253) (hp2 : pos.col = 4) (hpre : ∀ q ∈ pre, q.1 ≠ 196 ∧ ∀ r ∈ cs, q.1 ≠ r.1)
    (h : ∀ f c1 oc ctv doc h' tk ps', Fr g L h' m → News g L h' ((f, fnMade name readQ params body scope clos doc ((mg "__name__").getD .none) c1 ctv) :: (c1, oc) :: (pre ++ [(196, tabObj ps')])) → RecR oc → (ps' = tab1 c1 ∨ ∃ c2, ps' = tab2 c1 c2) →
      (∀ q ∈ pre, q.1 < f ∧ q.1 ≠ c1) → c1 < f → 196 < f → c1 ≠ 196 → (∀ r ∈ cs, (c1, oc) = r) → Q (.ref f) { s with heap := h', toks := tk }) :
    wpAny (model PP w) A (makeFunction name readQ params (.stmts body) scope (envX cn csc L a (.ref 200) cl) [] [] [] pos firstLine) Q E s := by
  rcases hT with ⟨rfl, rfl⟩ | ⟨c1, c2, oc, rfl, rfl, hR, h196⟩
  · refine nest_K F N T C rfl (g := fun o => pre ++ [(196, o)]) ?_ (show TriplesOk [] from trivial) rfl hcl ?_
    · clear N h C T F
      induction pre with
      | nil => exact UpdF.head (fun q hq => nomatch hq)
      | cons q r ih => exact UpdF.tail (hpre q (.head _)).1 (ih fun q hq => hpre q (.tail _ hq))
    · intro f c' oc vs t ctv doc h' tk F' N' e1 e2 l1 l2
      refine h f c' oc ctv doc h' tk _ F' N' ⟨vs, t, e1, e2⟩ (.inl ?_) (fun q hq => ?_) l2 (Nat.lt_trans (l1 _ (List.mem_append_right _ (.head _))) l2) (Nat.ne_of_gt (l1 _ (List.mem_append_right _ (.head _)))) (fun r hr => nomatch hr)
      · rw [hp1, hp2]; rfl
      · have := l1 q (List.mem_append_left _ hq)
        exact ⟨Nat.lt_trans this l2, Nat.ne_of_lt this⟩
  · refine nestHit_K F N T C rfl (List.mem_append_right _ (.head _)) (show TriplesOk [.int 253 0, .int 4 0, .ref c1, .int 255 0, .int 13 0, .ref c2] from trivial) (c' := c1) ?_ hcl ?_
    · show codeAmong pos [.int 253 0, .int 4 0, .ref c1, .int 255 0, .int 13 0, .ref c2] = _
      rw [codeAmong, hp1, hp2]; rfl
    · intro f ctv doc h' tk F' N' l1
      refine h f c1 oc ctv doc h' tk _ F' (fun q hq => N' q ?_) hR (.inr ⟨c2, rfl⟩) (fun q hq => ⟨l1 q (List.mem_append_left _ hq), (hpre q hq).2 _ (.head _)⟩) (l1 _ (List.mem_append_right _ (.tail _ (.head _)))) (l1 _ (List.mem_append_right _ (.head _))) h196 (fun r hr => (List.mem_singleton.mp hr).symm)
      (revert q; refine fmc ?_ fun q hq => ?_)
      · exact .head _
      · (revert q; refine fmc ?_ fun q hq => ?_)
        · exact .tail _ (List.mem_append_right _ (.tail _ (.head _)))
        · rcases List.mem_append.mp hq with hq | hq
          · exact .tail _ (List.mem_append_left _ hq)
          · exact .tail _ (List.mem_append_right _ (List.mem_singleton.mp hq ▸ .head _))
theorem lam_any {qual : Str} {body : Expr} {c1 : Addr} (F : Fr g L s.heap m) (N : News g L s.heap (pre ++ [(196, tabObj ps)])) (hT : ps = tab1 c1 ∨ ∃ c2, ps = tab2 c1 c2) (T : Top p loose mean mg mb g) (C : CodeHd g 200 196) (hcl : closureFor scope (envX cn csc L a (.ref 200) cl) = pure clos)
    (hp1 : pos.line = 255) (hp2 : pos.col = 13) (hpre : ∀ q ∈ pre, q.1 ≠ 196)
    (h : ∀ f c2 ctv h' tk, Fr g L h' m → News g L h' ((f, kla_obj name qual params body scope clos ((mg "__name__").getD .none) c2 ctv) :: (pre ++ [(196, tabObj (tab2 c1 c2))])) →
      (∀ q ∈ pre, q.1 < f) → 196 < f → Q (.ref f) { s with heap := h', toks := tk }) :
    wpAny (model PP w) A (makeFunction name qual params (.expr body) scope (envX cn csc L a (.ref 200) cl) [] [] [] pos firstLine) Q E s := by
  rcases hT with rfl | ⟨c2, rfl⟩
  · refine kla_nest F N T C rfl (g := fun o => pre ++ [(196, o)]) ?_ (show TriplesOk [.int 253 0, .int 4 0, .ref c1] from trivial) ?_ hcl ?_
    · clear N h C T F
      induction pre with
      | nil => exact UpdF.head (fun q hq => nomatch hq)
      | cons q r ih => exact UpdF.tail (hpre q (.head _)) (ih fun q hq => hpre q (.tail _ hq))
    · show codeAmong pos [.int 253 0, .int 4 0, .ref c1] = _
      rw [codeAmong, hp1, hp2]; rfl
    · intro f c' oc vs t ctv h' tk F' N' e1 e2 l1 l2
      rw [hp1, hp2] at N'
      refine h f c' ctv h' tk F' (fun q hq => N' q ?_) (fun q hq => Nat.lt_trans (l1 q (List.mem_append_left _ hq)) l2) (Nat.lt_trans (l1 _ (List.mem_append_right _ (.head _))) l2)
      (revert q; refine fmc ?_ fun q hq => ?_)
      · exact .head _
      · exact .tail _ (.tail _ hq)
  · refine kla_hit F N T C rfl (List.mem_append_right _ (.head _)) (show TriplesOk [.int 253 0, .int 4 0, .ref c1, .int 255 0, .int 13 0, .ref c2] from trivial) (c' := c2) ?_ hcl ?_
    · show codeAmong pos [.int 253 0, .int 4 0, .ref c1, .int 255 0, .int 13 0, .ref c2] = _
      rw [codeAmong, codeAmong, hp1, hp2]; rfl
    · intro f ctv h' tk F' N' l1
      exact h f c2 ctv h' tk F' N' (fun q hq => l1 q (List.mem_append_left _ hq)) (l1 _ (List.mem_append_right _ (.head _)))
end
/-- the words that the lexer gives, the last one empty -/
inductive Lexes : List (List Nat) → List Nat → Prop
  | nil {l rest : List Nat} : tokO l = some ([], rest) → Lexes [] l
  | cons {tok l rest : List Nat} {ws : List (List Nat)} : tokO l = some (tok, rest) → tok ≠ [] → Lexes ws rest → Lexes (tok :: ws) l
theorem Lexes.head {ws : List (List Nat)} {l : List Nat} (h : Lexes ws l) : ∃ rest, tokO l = some (ws.headD [], rest) ∧ ∀ x t, ws = x :: t → x ≠ [] ∧ Lexes t rest := by
  cases h with
  | nil e => exact ⟨_, e, fun _ _ q => nomatch q⟩
  | cons e hn hx => exact ⟨_, e, fun x t q => by cases q; exact ⟨hn, hx⟩⟩
theorem tok_step {w : World} {dp un : Nat} {fr gd} {s : Shared} {g : Heap} {L : Addr} {m : Str → Option Value} {p : Program} {loose : List Str} {mg mb : Str → Option Value} {k : LxK} {c : LxS} {own : List (Addr × Obj)} {tok rest : List Nat} {R : Result → Shared → Prop}
    (X : (hd.heap_1 w.params).In g) (T : TopRead p loose mg mb g) (F : Fr g L s.heap m) (N : News g L s.heap (own ++ LP k :: LX w k c)) (hk : LxOk w k) (hc : LxP c) (how : ∀ q ∈ own, q.1 ≠ k.a.dx ∧ q.1 ≠ k.a.ls) (hdp : dp < 870) (hu : un < 8700) (ht : tokO c.l = some (tok, rest))
    (h : ∀ h' tk c' u, Fr g L h' m → News g L h' (own ++ LP k :: LX w k c') → c'.l = rest → (tok ≠ [] → LxP c') → R (.ok (.ret (.str (sx tok) u))) { s with heap := h', toks := tk }) :
    codeAny (model PP w) (AA dp un fr gd) (.call (.ref 165) ⟨[.ref k.a.x], []⟩) R s := by
  refine token_call (at_of X T F N (fun q hq => List.mem_append_right _ hq)) hdp hu hk hc ht ?_
  intro h₂ tk₂ c' u K₂ hx hl hP
  have wdx := N _ (List.mem_append_right own (.tail _ (.tail _ (.head _))))
  have wls := N _ (List.mem_append_right own (.tail _ (.tail _ (.tail _ (.tail _ (.tail _ (List.mem_append_right _ (.head _))))))))
  refine h h₂ tk₂ c' u (fr_after F K₂ (by simp only [List.mem_cons, List.not_mem_nil, or_false, not_or]; exact ⟨fun e => wdx.2.1 e.symm, fun e => wls.2.1 e.symm⟩) (by intro b hb; simp only [List.mem_cons, List.not_mem_nil, or_false] at hb; rcases hb with rfl | rfl; exact wdx.2.2; exact wls.2.2)) (fun q hq => ?_) hl hP
  have keep : ∀ q ∈ own ++ LP k :: LX w k c, q.1 ≠ k.a.dx → q.1 ≠ k.a.ls → h₂.get? q.1 = some q.2 ∧ q.1 ≠ L ∧ g.get? q.1 = none := fun q hq h1 h2 => ⟨K₂ _ _ (by simp only [List.mem_cons, List.not_mem_nil, or_false, not_or]; exact ⟨h1, h2⟩) (N q hq).1, (N q hq).2⟩
  rcases List.mem_append.mp hq with hq | hq
  · exact keep q (List.mem_append_left _ hq) (how q hq).1 (how q hq).2
  · rcases List.mem_cons.mp hq with rfl | hq
    · exact keep _ (List.mem_append_right _ (.head _)) hk.ap.dx.2.2.2 hk.ap.ls.2.2.2.2
    · refine ⟨hx q hq, ?_⟩
      have : q.1 ∈ (LP k :: LX w k c).map (·.1) := by rw [LX_addr (c' := c')]; exact List.mem_map_of_mem (.tail _ hq)
      obtain ⟨q', hq', e⟩ := List.mem_map.mp this
      rw [← e]
      exact (N q' (List.mem_append_right _ hq')).2
theorem words_call {w : World} {dp un : Nat} {fr gd} {s : Shared} {h₀ : Heap} {l : List Nat} {ws : List (List Nat)} {t : Tok} {ps : Array Value} {cs : List (Addr × Obj)} {R : Result → Shared → Prop} (H : At w h₀ s ((196, tabObj ps) :: cs)) (hT : TabSt ps cs) (Tp : ∃ p loose mean mg mb, Top p loose mean mg mb h₀) (hdp : dp < 860) (hu : un < 8600) (hlen : l.length ≤ 100000) (hlex : Lexes ws l) (hws : ws.length ≤ 100000)
    (h : ∀ h' tk ps' cs' D vs n, KeepBut [196] s.heap h' → TabSt ps' cs' → (∀ q ∈ (196, tabObj ps') :: cs', h'.get? q.1 = some q.2 ∧ h₀.get? q.1 = none) → s.heap.get? D = none → h'.get? D = some (listOf vs.toArray n) → StrsAre vs (ws.map sx) → R (.ok (.ret (.ref D))) { s with heap := h', toks := tk }) :
    codeAny (model PP w) (AA dp un fr gd) (.call (.ref 201) ⟨[.str (sx l) t], []⟩) R s := by
  refine enterC (binds := [("text", .str (sx l) t)]) H (by k_is) (by k_is) (by show dp < 1000; omega) (BindsTo.of_eq rfl) (by rfl) (by decide) ?_
  intro p loose mg mb g L h₁ tk₁ cells hg X T F N hC hlt'
  obtain ⟨oc, hoc, hcd⟩ := CellsAre.one hC
  subst hoc
  clear hC
  k_fold
  replace hcd := (show oc.data = .cell none from hcd)
  simp only [List.cons_append, List.nil_append] at N
  obtain ⟨p₂, l₂, me₂, mg₂, mb₂, Tp'⟩ : ∃ p loose mean mg mb, Top p loose mean mg mb g := by
    obtain ⟨p, l, me, mg, mb, T⟩ := Tp
    refine ⟨p, l, me, mg, mb, T.keeps fun b o e => hg ▸ hideAll_get _ (H.keep b o e) fun q => ?_⟩
    obtain ⟨r, hr, rfl⟩ := List.mem_map.mp q
    rw [(H.ws r hr).2] at e; cases e
  (repeat' (first | (k_unfold; try dsimp only) | ((fail_if_success (with_reducible (refine stopAt ?_ ?_; rotate_left; first | exact s1 | exact s2 | exact s3 | exact s4 | exact s5 | exact s17 | exact s18 | exact s19 | exact s20 | exact s21 | exact s22 | exact s16 | exact s6 | exact s8 | exact s11 | exact s12 | exact s9 | exact s10 | exact s7))); (fail_if_success (with_reducible first | show LCg.CompSrc _ _ _ _ _ _ _ _ _ _ _ _ _ _ | show LCg.CompEnd _ _ _ _ _ _ _ _ _ _ _ _ _ _)); first | walk1 | (dsimp only; walk1))))
  refine list_textN rfl (by assumption) (by assumption) hlen ?_
  intro h₂ tk₂ vs n D F₂ N₂ hltD hvs
  dsimp only
  (repeat' (first | (k_unfold; try dsimp only) | ((fail_if_success (with_reducible (refine stopAt ?_ ?_; rotate_left; first | exact s1 | exact s2 | exact s3 | exact s4 | exact s5 | exact s17 | exact s18 | exact s19 | exact s20 | exact s21 | exact s22 | exact s16 | exact s6 | exact s8 | exact s11 | exact s12 | exact s9 | exact s10 | exact s7))); (fail_if_success (with_reducible first | show LCg.CompSrc _ _ _ _ _ _ _ _ _ _ _ _ _ _ | show LCg.CompEnd _ _ _ _ _ _ _ _ _ _ _ _ _ _)); first | walk1 | (dsimp only; walk1))))
  refine storeX_C F₂ N₂ (by rfl) (UpdF.tail (Nat.ne_of_gt (hltD _ (.head _))) (UpdF.head (fun q hq => Nat.ne_of_lt (Nat.lt_succ_of_lt (hlt' q hq))))) hcd ?_
  intro h₃ oc₃ F₃ N₃ hcd₃
  dsimp only
  (repeat' (first | (k_unfold; try dsimp only) | ((fail_if_success (with_reducible (refine stopAt ?_ ?_; rotate_left; first | exact s1 | exact s2 | exact s3 | exact s4 | exact s5 | exact s17 | exact s18 | exact s19 | exact s20 | exact s21 | exact s22 | exact s16 | exact s6 | exact s8 | exact s11 | exact s12 | exact s9 | exact s10 | exact s7))); (fail_if_success (with_reducible first | show LCg.CompSrc _ _ _ _ _ _ _ _ _ _ _ _ _ _ | show LCg.CompEnd _ _ _ _ _ _ _ _ _ _ _ _ _ _)); first | walk1 | (dsimp only; walk1))))
  refine nestDef_K rfl rfl rfl ?_
  refine def_any (pre := [(D, listOf vs.toArray n), (L + 1, oc₃)]) (name := "read") (csc := _) F₃ N₃ hT Tp' (codeHd_of_K X (by kernel_rfl)) rfl rfl rfl ?_ ?_
  · intro q hq
    (revert q; refine fmc ?_ fun q hq => ?_)
    · exact ⟨Nat.ne_of_gt (hltD _ (.tail _ (.head _))), fun r hr => Nat.ne_of_gt (hltD _ (.tail _ (.tail _ hr)))⟩
    · (revert q; refine fms ?_)
      exact ⟨Nat.ne_of_gt (Nat.lt_succ_of_lt (hlt' _ (.head _))), fun r hr => Nat.ne_of_gt (Nat.lt_succ_of_lt (hlt' _ (.tail _ hr)))⟩
  intro f c1 oc1 ctv doc h₄ tk₄ ps₄ F₄ N₄ hR hps hpre₄ l1 l2 l3 hcs₄
  obtain ⟨fdR, hRd, N₄⟩ : ∃ fdR, ReadC w f [(f, fnObj none fdR), (c1, oc1), (L + 1, oc₃)] D ∧ News g L h₄ ((f, fnObj none fdR) :: (c1, oc1) :: (D, listOf vs.toArray n) :: (L + 1, oc₃) :: [(196, tabObj ps₄)]) := by
    refine ⟨_, ?_, N₄⟩
    have hfD := hpre₄ _ (.head _)
    have hLD := hltD _ (.head _)
    clear N₄ F₄ hps hpre₄ hcs₄ F₃ N₃ F₂ N₂ F N h H hlt' hltD hT Tp' Tp hg X T hcd hvs hlen hdp hu
    intro dp un fr gd s h₀ l vs n t R H hdp hu hv hl h
    obtain ⟨vs', t', e1, e2⟩ := hR
    refine enterN (binds := [("count", .int 1 t)]) H (.head _) (.tail _ (.head _)) e1 e2 (by show dp < 1000; omega) (BindsTo.of_eq rfl) (locs rfl) ?_ (by decide)
    intro p loose mg mb g L' h₁ hg X T F N hlt'
    obtain ⟨fd0, H', hg', N'⟩ : ∃ fd0, At w h₀ s [(f, fnObj none fd0), (c1, oc1), (L + 1, oc₃), (D, listOf vs.toArray n)] ∧ g = hideAll s.heap ([(f, fnObj none fd0), (c1, oc1), (L + 1, oc₃), (D, listOf vs.toArray n)].map (·.1)) ∧ News g L' h₁ [(f, fnObj none fd0), (c1, oc1), (L + 1, oc₃), (D, listOf vs.toArray n)] := ⟨_, H, hg, N⟩
    clear N H hg hlt'
    k_fold
    (repeat' (first | (k_unfold; try dsimp only) | ((fail_if_success (with_reducible (refine stopAt ?_ ?_; rotate_left; first | exact s1 | exact s2 | exact s3 | exact s4 | exact s5 | exact s17 | exact s18 | exact s19 | exact s20 | exact s21 | exact s22 | exact s16 | exact s6 | exact s8 | exact s11 | exact s12 | exact s9 | exact s10 | exact s7))); (fail_if_success (with_reducible first | show LCg.CompSrc _ _ _ _ _ _ _ _ _ _ _ _ _ _ | show LCg.CompEnd _ _ _ _ _ _ _ _ _ _ _ _ _ _)); first | walk1 | (dsimp only; walk1))))
    walk1
    refine nameX_F N' (by rfl) (.tail _ (.tail _ (.head _))) hcd₃ ?_
    walk1
    walk1
    walk1
    rename Fr _ _ _ _ => F₂
    rename News _ _ _ _ => N₂
    refine ne_strsL ⟨_, (N₂ _ (.tail _ (.tail _ (.tail _ (.tail _ (.head _)))))).1, rfl, n, rfl⟩ ⟨_, (N₂ _ (.head _)).1, rfl, 0, rfl⟩ hv .nil (by k_units) ?_
    rename_i lq
    obtain ⟨-, -, -, hDq⟩ := lq
    dsimp only at F₂ N₂ ⊢
    cases l with
    | nil =>
      cases hv
      rw [show (!decide (List.map (fun c => sx [c]) [] = [])) = false from rfl]
      (repeat' (first | (k_unfold; try dsimp only) | ((fail_if_success (with_reducible (refine stopAt ?_ ?_; rotate_left; first | exact s1 | exact s2 | exact s3 | exact s4 | exact s5 | exact s17 | exact s18 | exact s19 | exact s20 | exact s21 | exact s22 | exact s16 | exact s6 | exact s8 | exact s11 | exact s12 | exact s9 | exact s10 | exact s7))); (fail_if_success (with_reducible first | show LCg.CompSrc _ _ _ _ _ _ _ _ _ _ _ _ _ _ | show LCg.CompEnd _ _ _ _ _ _ _ _ _ _ _ _ _ _)); first | walk1 | (dsimp only; walk1))))
      refine h _ _ [] n _ (keep_of hg' F₂ N₂ (fun p hp _ => .tail _ hp) (fun p hp => (H'.ws p hp).1)) (N₂ _ (.tail _ (.tail _ (.tail _ (.tail _ (.head _)))))).1 .nil
    | cons c r =>
      obtain _ | ⟨_, u, hv⟩ := hv
      rw [show (!decide (List.map (fun c => sx [c]) (c :: r) = [])) = true from rfl]
      (repeat' (first | (k_unfold; try dsimp only) | ((fail_if_success (with_reducible (refine stopAt ?_ ?_; rotate_left; first | exact s1 | exact s2 | exact s3 | exact s4 | exact s5 | exact s17 | exact s18 | exact s19 | exact s20 | exact s21 | exact s22 | exact s16 | exact s6 | exact s8 | exact s11 | exact s12 | exact s9 | exact s10 | exact s7))); (fail_if_success (with_reducible first | show LCg.CompSrc _ _ _ _ _ _ _ _ _ _ _ _ _ _ | show LCg.CompEnd _ _ _ _ _ _ _ _ _ _ _ _ _ _)); first | walk1 | (dsimp only; walk1))))
      refine nameX_F N₂ (by rfl) (.tail _ (.tail _ (.tail _ (.head _)))) hcd₃ ?_
      (repeat' (first | (k_unfold; try dsimp only) | ((fail_if_success (with_reducible (refine stopAt ?_ ?_; rotate_left; first | exact s1 | exact s2 | exact s3 | exact s4 | exact s5 | exact s17 | exact s18 | exact s19 | exact s20 | exact s21 | exact s22 | exact s16 | exact s6 | exact s8 | exact s11 | exact s12 | exact s9 | exact s10 | exact s7))); (fail_if_success (with_reducible first | show LCg.CompSrc _ _ _ _ _ _ _ _ _ _ _ _ _ _ | show LCg.CompEnd _ _ _ _ _ _ _ _ _ _ _ _ _ _)); first | walk1 | (dsimp only; walk1))))
      refine kl_popAt F₂ N₂ rfl (k := 0) (by show seqIndex? 0 (_ :: _).length = _; simp [seqIndex?]) rfl (Upd.tail (Nat.ne_of_gt hDq) (Upd.tail (Nat.ne_of_gt hfD.1) (Upd.tail hfD.2.symm (Upd.tail (Nat.ne_of_lt hLD) (Upd.head (fun _ hq => nomatch hq)))))) (by show (_ :: _).length ≤ _; rw [sizeLine_eq, List.length_cons, hv.length, List.length_map]; exact Nat.le_trans hl (by decide)) ?_
      intro h₃ F₃ N₃
      dsimp only [List.nil_append] at N₃ ⊢
      refine h _ _ _ (n + 1) _ (keep_of hg' F₃ N₃ (fun p hp hn => ?_) (fun p hp => (H'.ws p hp).1)) (N₃ _ (.tail _ (.tail _ (.tail _ (.tail _ (.head _)))))).1 hv
      (revert p; refine fmc ?_ fun p hp => ?_)
      · intro _; exact .tail _ (.head _)
      · (revert p; refine fmc ?_ fun p hp => ?_)
        · intro _; exact .tail _ (.tail _ (.head _))
        · (revert p; refine fmc ?_ fun p hp => ?_)
          · intro _; exact .tail _ (.tail _ (.tail _ (.head _)))
          · intro hn; rw [List.mem_singleton.mp hp] at hn; exact absurd (.head _) hn
  dsimp only
  (repeat' (first | (k_unfold; try dsimp only) | ((fail_if_success (with_reducible (refine stopAt ?_ ?_; rotate_left; first | exact s1 | exact s2 | exact s3 | exact s4 | exact s5 | exact s17 | exact s18 | exact s19 | exact s20 | exact s21 | exact s22 | exact s16 | exact s6 | exact s8 | exact s11 | exact s12 | exact s9 | exact s10 | exact s7))); (fail_if_success (with_reducible first | show LCg.CompSrc _ _ _ _ _ _ _ _ _ _ _ _ _ _ | show LCg.CompEnd _ _ _ _ _ _ _ _ _ _ _ _ _ _)); first | walk1 | (dsimp only; walk1))))
  rename Fr _ _ _ _ => F₅
  rename News _ _ _ _ => N₅
  refine kla_eval rfl ?_
  refine lam_any (pre := [_, _, (D, listOf vs.toArray n), (L + 1, oc₃)]) (c1 := c1) F₅ N₅ hps Tp' (codeHd_of_K X (by kernel_rfl)) rfl rfl rfl ?_ ?_
  · intro q hq
    (revert q; refine fmc ?_ fun q hq => ?_)
    · exact Nat.ne_of_gt l2
    · (revert q; refine fmc ?_ fun q hq => ?_)
      · exact l3
      · (revert q; refine fmc ?_ fun q hq => ?_)
        · exact Nat.ne_of_gt (hltD _ (.tail _ (.head _)))
        · (revert q; refine fms ?_); exact Nat.ne_of_gt (Nat.lt_succ_of_lt (hlt' _ (.head _)))
  intro f2 c2 ctv2 h₆ tk₆ F₆ N₆ hpre₆ l5
  obtain ⟨fdS, N₆⟩ : ∃ fdS, News g L h₆ ((f2, fnObj none fdS) :: (f, fnObj none fdR) :: (c1, oc1) :: (D, listOf vs.toArray n) :: (L + 1, oc₃) :: [(196, tabObj (tab2 c1 c2))]) := ⟨_, N₆⟩
  dsimp only
  (repeat' (first | (k_unfold; try dsimp only) | ((fail_if_success (with_reducible (refine stopAt ?_ ?_; rotate_left; first | exact s1 | exact s2 | exact s3 | exact s4 | exact s5 | exact s17 | exact s18 | exact s19 | exact s20 | exact s21 | exact s22 | exact s16 | exact s6 | exact s8 | exact s11 | exact s12 | exact s9 | exact s10 | exact s7))); (fail_if_success (with_reducible first | show LCg.CompSrc _ _ _ _ _ _ _ _ _ _ _ _ _ _ | show LCg.CompEnd _ _ _ _ _ _ _ _ _ _ _ _ _ _)); first | walk1 | (dsimp only; walk1))))
  rename Fr _ _ _ _ => F₇
  rename News _ _ _ _ => N₇
  have hlt₀ : ∀ q ∈ [(f, fnObj none fdR), (c1, oc1), (D, listOf vs.toArray n), (L + 1, oc₃), (196, tabObj (tab2 c1 c2))], q.1 < f2 := by
    intro q hq
    (revert q; refine fmc ?_ fun q hq => ?_)
    · exact hpre₆ _ (.head _)
    · (revert q; refine fmc ?_ fun q hq => ?_)
      · exact hpre₆ _ (.tail _ (.head _))
      · (revert q; refine fmc ?_ fun q hq => ?_)
        · exact hpre₆ _ (.tail _ (.tail _ (.head _)))
        · (revert q; refine fmc ?_ fun q hq => ?_)
          · exact hpre₆ _ (.tail _ (.tail _ (.tail _ (.head _))))
          · (revert q; refine fms ?_); exact l5
  refine setAttr_fn F₇ N₇ (Upd.head fun q hq => Nat.ne_of_lt (hlt₀ q hq)) ?_
  intro h₈ tka tkb F₈ N₈ hltS
  obtain ⟨ds, N₈, hltS⟩ : ∃ ds, News g L h₈ ((ds, readDict w (.ref f) tka) :: (f2, fnObj (some ds) fdS) :: [(f, fnObj none fdR), (c1, oc1), (D, listOf vs.toArray n), (L + 1, oc₃), (196, tabObj (tab2 c1 c2))]) ∧ ∀ p ∈ (f2, fnObj (some ds) fdS) :: [(f, fnObj none fdR), (c1, oc1), (D, listOf vs.toArray n), (L + 1, oc₃), (196, tabObj (tab2 c1 c2))], p.1 < ds := ⟨_, N₈, hltS⟩
  dsimp only
  (repeat' (first | (k_unfold; try dsimp only) | ((fail_if_success (with_reducible (refine stopAt ?_ ?_; rotate_left; first | exact s1 | exact s2 | exact s3 | exact s4 | exact s5 | exact s17 | exact s18 | exact s19 | exact s20 | exact s21 | exact s22 | exact s16 | exact s6 | exact s8 | exact s11 | exact s12 | exact s9 | exact s10 | exact s7))); (fail_if_success (with_reducible first | show LCg.CompSrc _ _ _ _ _ _ _ _ _ _ _ _ _ _ | show LCg.CompEnd _ _ _ _ _ _ _ _ _ _ _ _ _ _)); first | walk1 | (dsimp only; walk1))))
  refine call_cls F₈ X N₈ (by k_is) (by k_is) (by k_is) ?_
  intro x dx h₉ F₉ N₉ l6 l7
  refine init_call (at_of X T F₉ N₉ (fun q hq => List.mem_append_left _ hq)) (by show dp + 1 + 1 < 880; omega) (by show un + 3 + 1 < 8800; omega) l7 ?_
  intro h₁₀ tkc pb tl k1 k2 k3 k4 tw K₁₀ edx epb epb'
  refine ⟨rfl, ?_⟩
  dsimp only at K₁₀ edx epb epb' ⊢
  have wdx := N₉ _ (.tail _ (.head _))
  have wx := N₉ _ (.head _)
  have F₁₀ := fr_after F₉ K₁₀ (by rw [List.mem_singleton]; exact fun e => wdx.2.1 e.symm) (by intro b hb; rw [List.mem_singleton.mp hb]; exact wdx.2.2)
  have npb : pb ≠ L := fun e => by
    obtain ⟨o, _, _, e2, _⟩ := F₉.ns
    rw [e, e2] at epb; cases epb
  have gpb : g.get? pb = none := by
    cases e : g.get? pb with
    | none => rfl
    | some o => rw [F₉.keep _ _ e] at epb; cases epb
  have hpb : ∀ q ∈ [(x, instObj 175 dx), (dx, dictOf [] 0), (ds, readDict w (.ref f) tka), (f2, fnObj (some ds) fdS), (f, fnObj none fdR), (c1, oc1), (D, listOf vs.toArray n), (L + 1, oc₃), (196, tabObj (tab2 c1 c2))], q.1 ≠ pb := fun q hq e => by
    have := (N₉ q hq).1
    rw [e, epb] at this; cases this
  have keep : ∀ q, q ∈ [(x, instObj 175 dx), (dx, dictOf [] 0), (ds, readDict w (.ref f) tka), (f2, fnObj (some ds) fdS), (f, fnObj none fdR), (c1, oc1), (D, listOf vs.toArray n), (L + 1, oc₃), (196, tabObj (tab2 c1 c2))] → q.1 ≠ dx → h₁₀.get? q.1 = some q.2 ∧ q.1 ≠ L ∧ g.get? q.1 = none := fun q hq h1 => ⟨K₁₀ _ _ (by rw [List.mem_singleton]; exact h1) (N₉ q hq).1, (N₉ q hq).2⟩
  have hfD := hpre₄ _ (.head _)
  have hLD := hltD _ (.head _)
  have m1 := keep _ (.head _) (Nat.ne_of_gt l7)
  have m3 := keep _ (.tail _ (.tail _ (.head _))) (Nat.ne_of_lt (l6 _ (.head _)))
  have m4 := keep _ (.tail _ (.tail _ (.tail _ (.head _)))) (Nat.ne_of_lt (l6 _ (.tail _ (.head _))))
  have m5 := keep _ (.tail _ (.tail _ (.tail _ (.tail _ (.head _))))) (Nat.ne_of_lt (l6 _ (.tail _ (.tail _ (.head _)))))
  have m6 := keep _ (.tail _ (.tail _ (.tail _ (.tail _ (.tail _ (.head _)))))) (Nat.ne_of_lt (l6 _ (.tail _ (.tail _ (.tail _ (.head _))))))
  have m7 := keep _ (.tail _ (.tail _ (.tail _ (.tail _ (.tail _ (.tail _ (.head _))))))) (Nat.ne_of_lt (l6 _ (.tail _ (.tail _ (.tail _ (.tail _ (.head _)))))))
  have m8 := keep _ (.tail _ (.tail _ (.tail _ (.tail _ (.tail _ (.tail _ (.tail _ (.head _)))))))) (Nat.ne_of_lt (l6 _ (.tail _ (.tail _ (.tail _ (.tail _ (.tail _ (.head _))))))))
  have m9 := keep _ (.tail _ (.tail _ (.tail _ (.tail _ (.tail _ (.tail _ (.tail _ (.tail _ (.head _))))))))) (Nat.ne_of_lt (l6 _ (.tail _ (.tail _ (.tail _ (.tail _ (.tail _ (.tail _ (.head _)))))))))
  have dD : D < f2 := hlt₀ _ (.tail _ (.tail _ (.head _)))
  have dS : f2 < ds := hltS _ (.head _)
  have dX : ds < dx := l6 _ (.head _)
  obtain ⟨k, hkx, hkf, h6, hok, N₁₀⟩ : ∃ k : LxK, x = k.a.x ∧ (c1, oc1) ∈ k.fix ∧ ((196 : Addr) ≠ k.a.dx ∧ (196 : Addr) ≠ k.a.ls) ∧ LxOk w k ∧ News g L h₁₀ ((196, tabObj (tab2 c1 c2)) :: LP k :: LX w k ⟨1, tl, vs, n, l⟩) := by
    have e1 : D < ds := Nat.lt_trans dD dS
    have e2 : D < dx := Nat.lt_trans e1 dX
    refine ⟨⟨⟨x, dx, f2, ds, f, pb, D⟩, [(f, fnObj none fdR), (c1, oc1), (L + 1, oc₃)], fdS, fdR, tka, k1, k2, k3, k4, tw, 0⟩, rfl, .tail _ (.head _), ⟨Nat.ne_of_lt (Nat.lt_trans l5 (Nat.lt_trans dS dX)), Nat.ne_of_lt (hltD _ (.tail _ (.head _)))⟩,
      ⟨hRd, .head _, ⟨⟨Nat.ne_of_gt (Nat.lt_trans e2 l7), Nat.ne_of_gt e2, Nat.ne_of_gt dD, Nat.ne_of_gt e1, (hpb _ (.tail _ (.tail _ (.tail _ (.tail _ (.tail _ (.tail _ (.head _)))))))).symm⟩,
        ⟨Nat.ne_of_gt l7, Nat.ne_of_lt (Nat.lt_trans dS dX), Nat.ne_of_lt dX, (hpb _ (.tail _ (.head _))).symm⟩, ?_⟩⟩, ?_⟩
    · intro q hq
      (revert q; refine fmc ?_ fun q hq => ?_)
      · exact ⟨Nat.ne_of_gt hfD.1, Nat.ne_of_lt (l6 _ (.tail _ (.tail _ (.head _))))⟩
      · (revert q; refine fmc ?_ fun q hq => ?_)
        · exact ⟨hfD.2.symm, Nat.ne_of_lt (l6 _ (.tail _ (.tail _ (.tail _ (.head _)))))⟩
        · (revert q; refine fms ?_)
          exact ⟨Nat.ne_of_lt hLD, Nat.ne_of_lt (Nat.lt_trans hLD e2)⟩
    · intro q hq
      (revert q; refine fmc ?_ fun q hq => ?_)
      · exact m9
      · (revert q; refine fmc ?_ fun q hq => ?_)
        · exact ⟨epb', npb, gpb⟩
        · (revert q; refine fmc ?_ fun q hq => ?_)
          · exact m1
          · (revert q; refine fmc ?_ fun q hq => ?_)
            · exact ⟨edx _ rfl rfl, wdx.2⟩
            · (revert q; refine fmc ?_ fun q hq => ?_)
              · exact m4
              · (revert q; refine fmc ?_ fun q hq => ?_)
                · exact m3
                · (revert q; refine fmc ?_ fun q hq => ?_)
                  · exact m5
                  · (revert q; refine fmc ?_ fun q hq => ?_)
                    · exact m6
                    · (revert q; refine fmc ?_ fun q hq => ?_)
                      · exact m8
                      · (revert q; refine fms ?_); exact m7
  have hLc : LxP ⟨1, tl, vs, n, l⟩ := ⟨hvs, hlen, by show (0 : Int) ≤ 1; decide, by show (1 : Int) + (l.length : Int) ≤ 100001; omega⟩
  (try clear m1); (try clear m3); (try clear m4); (try clear m5); (try clear m6); (try clear m7); (try clear m8); (try clear m9); (try clear keep); (try clear hfD); (try clear hLD); (try clear dD); (try clear dS); (try clear dX); (try clear hpb); (try clear npb); (try clear gpb); (try clear wdx); (try clear wx); (try clear K₁₀); (try clear edx); (try clear epb); (try clear epb'); (try clear l6); (try clear l7); (try clear F₉); (try clear N₉); (try clear hltS); (try clear hlt₀); (try clear N₈); (try clear F₈); (try clear N₇); (try clear F₇); (try clear N₆); (try clear F₆); (try clear hRd); (try clear hcd₃); (try clear hpre₆); (try clear hpre₄); (try clear N₄); (try clear F₄); (try clear N₅); (try clear F₅); (try clear N₃); (try clear F₃); (try clear N₂); (try clear F₂); (try clear hltD); (try clear hcd); (try clear hvs); (try clear N); (try clear F); (try clear h₂); (try clear h₃); (try clear h₄); (try clear h₆); (try clear hps); (try clear l1); (try clear l2); (try clear l5)
  generalize hc : LxS.mk 1 tl vs n l = c at N₁₀ hLc
  have hcl : c.l = l := by rw [← hc]
  clear hc
  subst hkx
  (repeat' (first | (k_unfold; try dsimp only) | ((fail_if_success (with_reducible (refine stopAt ?_ ?_; rotate_left; first | exact s1 | exact s2 | exact s3 | exact s4 | exact s5 | exact s17 | exact s18 | exact s19 | exact s20 | exact s21 | exact s22 | exact s16 | exact s6 | exact s8 | exact s11 | exact s12 | exact s9 | exact s10 | exact s7))); (fail_if_success (with_reducible first | show LCg.CompSrc _ _ _ _ _ _ _ _ _ _ _ _ _ _ | show LCg.CompEnd _ _ _ _ _ _ _ _ _ _ _ _ _ _)); first | walk1 | (dsimp only; walk1))))
  rename News _ _ _ _ => N₁
  rename Fr _ _ _ _ => F₁
  rename (_ < _) ∧ _ => lW
  rename_i W _ _
  have hWlt : ∀ q ∈ (196, tabObj (tab2 c1 c2)) :: LP k :: LX w k c, q.1 < W := fun q hq => allLt_mem (l := (196, tabObj (tab2 c1 c2)) :: LP k :: LX w k c) lW q hq
  have hWne : ∀ q ∈ LP k :: LX w k c, q.1 ≠ W := fun q hq => Nat.ne_of_lt (hWlt q (.tail _ hq))
  have hW6 : (196 : Addr) ≠ W := Nat.ne_of_lt (hWlt _ (.head _))
  have how : ∀ vW nW, ∀ q ∈ [(W, listOf vW nW), (196, tabObj (tab2 c1 c2))], q.1 ≠ k.a.dx ∧ q.1 ≠ k.a.ls := by
    intro vW nW q hq
    (revert q; refine fmc ?_ fun q hq => ?_)
    · exact ⟨(hWne _ (.tail _ (.tail _ (.head _)))).symm, (hWne _ (.tail _ (.tail _ (.tail _ (.tail _ (.tail _ (List.mem_append_right _ (.head _)))))))).symm⟩
    · (revert q; refine fms ?_); exact h6
  dsimp only
  obtain ⟨rest₀, ht₀, hr₀⟩ := hlex.head
  refine wpAny_call (tok_step (own := [(W, listOf #[] 0), (196, tabObj (tab2 c1 c2))]) X T F₁ N₁ hok hLc (how _ _) (by show dp + 1 < 870; omega) (by show un + 3 < 8700; omega) (hcl ▸ ht₀) ?_)
  intro h₂ tk₂ c₂ u₂ F₂ N₂ hl₂ hP₂
  dsimp only at F₂ N₂ ⊢
  (repeat' (first | (k_unfold; try dsimp only) | ((fail_if_success (with_reducible (refine stopAt ?_ ?_; rotate_left; first | exact s1 | exact s2 | exact s3 | exact s4 | exact s5 | exact s17 | exact s18 | exact s19 | exact s20 | exact s21 | exact s22 | exact s16 | exact s6 | exact s8 | exact s11 | exact s12 | exact s9 | exact s10 | exact s7))); (fail_if_success (with_reducible first | show LCg.CompSrc _ _ _ _ _ _ _ _ _ _ _ _ _ _ | show LCg.CompEnd _ _ _ _ _ _ _ _ _ _ _ _ _ _)); first | walk1 | (dsimp only; walk1))))
  rename News _ _ _ _ => N₃
  rename Fr _ _ _ _ => F₃
  refine while_st (σ := (List Value × Nat × List (List Nat)) × List (List Nat) × Tok × LxS) (fun c => [("words", .ref W), ("word", .str (sx (c.2.1.headD [])) c.2.2.1), ("lexer", .ref k.a.x)])
    (fun c => (W, listOf c.1.1.toArray c.1.2.1) :: (196, tabObj (tab2 c1 c2)) :: LP k :: LX w k c.2.2.2)
    (fun c => StrsAre c.1.1 (c.1.2.2.map sx) ∧ ws = c.1.2.2 ++ c.2.1 ∧ ∀ x t, c.2.1 = x :: t → x ≠ [] ∧ LxP c.2.2.2 ∧ Lexes t c.2.2.2.l) (fun c => c.2.1.length)
    (([], 0, []), ws, u₂, c₂) F₃ (by (repeat' (first | exact fmn | refine fmc (@rfl (Option Value) (some _)) ?_))) N₃ ⟨.nil, rfl, fun x t e => ⟨(hr₀ x t e).1, hP₂ (by rw [show ws = x :: t from e]; exact (hr₀ x t e).1), hl₂ ▸ (hr₀ x t e).2⟩⟩ ?_
  refine elp15 fun vW nW done r tt c => ?_
  rintro u₁₀ h₁₀ tk₁₀
  refine ela4 fun hw1 hw2 hw3 => ?_
  rintro F₁₀ N₁₀
  dsimp only [kstB] at hw1 hw2 hw3 F₁₀ N₁₀ ⊢
  (repeat' (first | (k_unfold; try dsimp only) | ((fail_if_success (with_reducible (refine stopAt ?_ ?_; rotate_left; first | exact s1 | exact s2 | exact s3 | exact s4 | exact s5 | exact s17 | exact s18 | exact s19 | exact s20 | exact s21 | exact s22 | exact s16 | exact s6 | exact s8 | exact s11 | exact s12 | exact s9 | exact s10 | exact s7))); (fail_if_success (with_reducible first | show LCg.CompSrc _ _ _ _ _ _ _ _ _ _ _ _ _ _ | show LCg.CompEnd _ _ _ _ _ _ _ _ _ _ _ _ _ _)); first | walk1 | (dsimp only; walk1))))
  · rename _ = true => ha
    cases r with
    | nil => exact absurd ha (by decide)
    | cons x r =>
      obtain ⟨hx, hcP, hxl⟩ := hw3 x r rfl
      obtain ⟨rest, hto, hre⟩ := hxl.head
      have hsz : done.length ≤ 100000 := by rw [hw2, List.length_append] at hws; omega
      refine append_K F₁₀ N₁₀ (Upd.head ?_) ?_ (by rw [List.size_toArray, hw1.length, List.length_map, sizeLine_eq]; omega)
      · intro q hq
        (revert q; refine fmc ?_ fun q hq => ?_)
        · exact hW6
        · exact LX_apart hWne c q hq
      intro h₁₁ F₁₁ N₁₁
      rw [List.push_toArray] at N₁₁
      dsimp only
      (repeat' (first | (k_unfold; try dsimp only) | ((fail_if_success (with_reducible (refine stopAt ?_ ?_; rotate_left; first | exact s1 | exact s2 | exact s3 | exact s4 | exact s5 | exact s17 | exact s18 | exact s19 | exact s20 | exact s21 | exact s22 | exact s16 | exact s6 | exact s8 | exact s11 | exact s12 | exact s9 | exact s10 | exact s7))); (fail_if_success (with_reducible first | show LCg.CompSrc _ _ _ _ _ _ _ _ _ _ _ _ _ _ | show LCg.CompEnd _ _ _ _ _ _ _ _ _ _ _ _ _ _)); first | walk1 | (dsimp only; walk1))))
      dsimp only
      refine wpAny_call (tok_step (own := [(W, listOf (vW ++ [Value.str (sx x) tt]).toArray (nW + 1)), (196, tabObj (tab2 c1 c2))]) X T F₁₁ N₁₁ hok hcP (how _ _) (by show dp + 1 < 870; omega) (by show un + 3 < 8700; omega) hto ?_)
      intro h₁₂ tk₁₂ c₃ u₃ F₁₂ N₁₂ hl₃ hP₃
      dsimp only at F₁₂ N₁₂ ⊢
      (repeat' (first | (k_unfold; try dsimp only) | ((fail_if_success (with_reducible (refine stopAt ?_ ?_; rotate_left; first | exact s1 | exact s2 | exact s3 | exact s4 | exact s5 | exact s17 | exact s18 | exact s19 | exact s20 | exact s21 | exact s22 | exact s16 | exact s6 | exact s8 | exact s11 | exact s12 | exact s9 | exact s10 | exact s7))); (fail_if_success (with_reducible first | show LCg.CompSrc _ _ _ _ _ _ _ _ _ _ _ _ _ _ | show LCg.CompEnd _ _ _ _ _ _ _ _ _ _ _ _ _ _)); first | walk1 | (dsimp only; walk1))))
      rename News _ _ _ _ => N₁₃
      rename Fr _ _ _ _ => F₁₃
      refine WEnd.mk' ((vW ++ [Value.str (sx x) tt], nW + 1, done ++ [x]), r, u₃, c₃) F₁₃ (by (repeat' (first | exact fmn | refine fmc (@rfl (Option Value) (some _)) ?_))) N₁₃ ⟨?_, ?_, ?_⟩ (Nat.lt_succ_self _)
      · show StrsAre _ ((done ++ [x]).map sx)
        rw [List.map_append]
        exact strs_snoc hw1
      · show ws = (done ++ [x]) ++ r
        rw [hw2, List.append_assoc]; rfl
      · intro y t e
        exact ⟨(hre y t e).1, hP₃ (by rw [show r = y :: t from e]; exact (hre y t e).1), hl₃ ▸ (hre y t e).2⟩
  · rename _ = false => ha
    cases r with
    | cons x r =>
      refine absurd (bne_eq_false_iff_eq.mp ha) fun e => (hw3 x r rfl).1 ?_
      have e2 := congrArg (fun z : Str => z.cps.toList) e
      exact e2
    | nil =>
      rw [List.append_nil] at hw2
      subst hw2
      have hgk : ∀ b o, h₀.get? b = some o → g.get? b = some o := fun b o e => hg ▸ hideAll_get _ (H.keep b o e) fun q => by
        obtain ⟨r, hr, rfl⟩ := List.mem_map.mp q
        rw [(H.ws r hr).2] at e; cases e
      have hnone : ∀ b, g.get? b = none → h₀.get? b = none := fun b e => by
        cases e2 : h₀.get? b with
        | none => rfl
        | some o => rw [hgk b o e2] at e; cases e
      have hc1 : (c1, oc1) ∈ (W, listOf vW.toArray nW) :: (196, tabObj (tab2 c1 c2)) :: LP k :: LX w k c := .tail _ (.tail _ (.tail _ (.tail _ (.tail _ (.tail _ (.tail _ (List.mem_append_left _ hkf)))))))
      refine h h₁₀ _ (tab2 c1 c2) [(c1, oc1)] W vW nW (keep_of hg F₁₀ N₁₀ (fun p hp hn => ?_) (fun p hp => (H.ws p hp).1)) (.inr ⟨c1, c2, oc1, rfl, rfl, hR, l3⟩) (fun q hq => ?_) ?_ (N₁₀ _ (.head _)).1 hw1
      · rcases List.mem_cons.mp hp with rfl | hp
        · exact absurd (.head _) hn
        · exact hcs₄ p hp ▸ hc1
      · (revert q; refine fmc ?_ fun q hq => ?_)
        · exact ⟨(N₁₀ _ (.tail _ (.head _))).1, hnone _ (N₁₀ _ (.tail _ (.head _))).2.2⟩
        · (revert q; refine fms ?_)
          exact ⟨(N₁₀ _ hc1).1, hnone _ (N₁₀ _ hc1).2.2⟩
      · cases e : s.heap.get? W with
        | none => rfl
        | some o =>
          have h1 := (N₁₀ _ (.head _)).2.2
          rw [hg, hideAll_get _ e (fun q => ?_)] at h1
          · exact h1
          · obtain ⟨r, hr, e3⟩ := List.mem_map.mp q
            rcases List.mem_cons.mp hr with rfl | hr
            · exact hW6 e3
            · rw [← hcs₄ r hr] at e3
              exact LX_apart hWne c (c1, oc1) (.tail _ (.tail _ (.tail _ (.tail _ (.tail _ (List.mem_append_left _ hkf)))))) e3
end Mine
end

section
open PySem PySem.W PySem.Calls PyProof.Rows PySem.MeetsSeq
set_option Elab.async false
set_option maxRecDepth 100000
set_option maxHeartbeats 4000000
set_option linter.unusedVariables false
namespace Mine
theorem fillTo : hd.heap_1 = hd.heap_1 ∧ Challenge.rw_oy0121_01 = Challenge.rw_oy0121_01 := by k_fill; exact ⟨rfl, rfl⟩
theorem range1_size (n : Nat) : Builtin.Range.rangeSize 1 ((n : Int) + 1) 1 = (n : Int) := by
  unfold Builtin.Range.rangeSize
  simp only [show (1 : Int) > 0 by decide, if_true]
  split <;> omega
theorem range1_small (n : Nat) (hn : n < 2 ^ 60) : Builtin.Range.small 1 ((n : Int) + 1) 1 = true := by
  unfold Builtin.Range.small
  rw [range1_size]
  rw [if_pos (show (1 : Int) > 0 by decide)]
  unfold Builtin.Range.rangeFitsLong
  simp only [Bool.and_eq_true, Bool.or_eq_true, decide_eq_true_eq, beq_iff_eq]
  omega
/-- the turns of a comprehension with a test, by what holds between them -/
theorem compRestT_of {w : World} {A : Around} {g : Heap} {L : Addr} {m : Str → Option Value} {env : Env} {ct elt : Expr} {x : Str} {scope : Scope} {cl : List (Str × Addr)} {s : Shared} {S : List (Addr × Obj) → Prop} {Pv : Nat → Value → Prop}
    {Fin : List Value → List (Addr × Obj) → Prop} {n : Nat} {news : List (Addr × Obj)} (Inv : Nat → List Value → List (Addr × Obj) → Prop) (h0 : Inv 0 [] news)
    (step : ∀ i ys news v I oI C oC D m₂ h tk (E' : Value → Shared → Prop), i < n → Inv i ys news → Pv i v → LCg.NsObj oC m₂ → m₂ x = some v → Fr g L h m → News g L h ((I, oI) :: (C, oC) :: (D, LCg.lst ys) :: news) → LCg.Off3 I C D news → ((@Ne Nat I C) ∧ (@Ne Nat I D) ∧ (@Ne Nat C D)) →
      wpAny (model PP w) A (isTrue ct (compEnvC scope cl C env) (eval ct (compEnvC scope cl C env))) (fun ok s' => if ok = true then
        wpAny (model PP w) A (eval elt (compEnvC scope cl C env)) (LCg.CompEnd g L m { s with heap := h, toks := tk } I oI C oC D (LCg.lst ys) S (fun y news' => Inv (i + 1) (ys ++ [y]) news')) E' s'
        else LCg.CompEnd g L m { s with heap := h, toks := tk } I oI C oC D (LCg.lst ys) S (fun _ news' => Inv (i + 1) ys news') Value.none s') E' { s with heap := h, toks := tk })
    (fin : ∀ ys news, Inv n ys news → Fin ys news) : LCt.CompRestT PP w A g L m env ct elt x scope cl s S Pv Fin n 0 [] news := by
  have all : ∀ k i ys news, i + k = n → Inv i ys news → LCt.CompRestT PP w A g L m env ct elt x scope cl s S Pv Fin k i ys news := by
    intro k
    induction k with
    | zero => intro i ys news e hi; rw [Nat.add_zero] at e; subst e; exact fin ys news hi
    | succ k ih =>
      intro i ys news e hi
      refine LCt.CompRestT.succ ?_
      intro v I oI C oC D m₂ h tk E' hv ho hx F N off ne
      refine wpAny_mono (step i ys news v I oI C oC D m₂ h tk E' (by omega) hi hv ho hx F N off ne) (fun ok s₂ hy => ?_) fun _ _ z => z
      cases ok with
      | true =>
        simp only [if_true] at hy ⊢
        refine wpAny_mono hy (fun y s₃ hz => ?_) fun _ _ z => z
        obtain ⟨h', tk', news', e', F', N', off', hS, r⟩ := hz
        exact ⟨h', tk', news', e', F', N', off', hS, ih (i + 1) (ys ++ [y]) news' (by omega) r⟩
      | false =>
        simp only [Bool.false_eq_true, if_false] at hy ⊢
        obtain ⟨h', tk', news', e', F', N', off', hS, r⟩ := hy
        exact ⟨h', tk', news', e', F', N', off', hS, ih (i + 1) ys news' (by omega) r⟩
  exact all n 0 [] news (by omega) h0
theorem fmodN {a b n : Nat} (e : a = n) : (a : Int).fmod (b : Int) = ((n % b : Nat) : Int) := by
  subst e; rw [Int.fmod_eq_emod_of_nonneg _ (by omega)]; rfl
theorem fdivN {a b n : Nat} (e : a = n) : (a : Int).fdiv (b : Int) = ((n / b : Nat) : Int) := by
  subst e; rw [Int.fdiv_eq_ediv_of_nonneg _ (by omega)]; rfl
theorem compRestP_of {w : World} {A : Around} {g : Heap} {L : Addr} {m : Str → Option Value} {env : Env} {elt : Expr} {x x₂ : Str} {scope : Scope} {cl : List (Str × Addr)} {s : Shared} {S : List (Addr × Obj) → Prop} {Pv : Nat → Value → Prop}
    {Fin : List Value → List (Addr × Obj) → Prop} {n : Nat} {news : List (Addr × Obj)} (Inv : Nat → List Value → List (Addr × Obj) → Prop) (h0 : Inv 0 [] news)
    (step : ∀ i ys news v, i < n → Inv i ys news → Pv i v → ∃ (t : Addr) (ot : Obj) (v₁ v₂ : Value) (nt : Nat), v = .ref t ∧ (t, ot) ∈ news ∧ ot.cls = .type "tuple" ∧ ot.data = .seq #[v₁, v₂] nt ∧
      ∀ I oI C oC D m₂ h tk (E' : Value → Shared → Prop), LCg.NsObj oC m₂ → m₂ x = some v₁ → m₂ x₂ = some v₂ → Fr g L h m → News g L h ((I, oI) :: (C, oC) :: (D, LCg.lst ys) :: news) → LCg.Off3 I C D news → ((@Ne Nat I C) ∧ (@Ne Nat I D) ∧ (@Ne Nat C D)) →
      wpAny (model PP w) A (eval elt (compEnvC scope cl C env)) (LCg.CompEnd g L m { s with heap := h, toks := tk } I oI C oC D (LCg.lst ys) S (fun y news' => Inv (i + 1) (ys ++ [y]) news')) E' { s with heap := h, toks := tk })
    (fin : ∀ ys news, Inv n ys news → Fin ys news) : LCp.CompRestP PP w A g L m env elt x x₂ scope cl s S Pv Fin n 0 [] news := by
  have all : ∀ k i ys news, i + k = n → Inv i ys news → LCp.CompRestP PP w A g L m env elt x x₂ scope cl s S Pv Fin k i ys news := by
    intro k
    induction k with
    | zero => intro i ys news e hi; rw [Nat.add_zero] at e; subst e; exact fin ys news hi
    | succ k ih =>
      intro i ys news e hi
      refine LCp.CompRestP.succ ?_
      intro v hv
      obtain ⟨t, ot, v₁, v₂, nt, e1, e2, e3, e4, st⟩ := step i ys news v (by omega) hi hv
      refine ⟨t, ot, v₁, v₂, nt, e1, e2, e3, e4, ?_⟩
      intro I oI C oC D m₂ h tk E' ho hx hx2 F N off ne
      refine wpAny_mono (st I oI C oC D m₂ h tk E' ho hx hx2 F N off ne) (fun y s₂ hy => ?_) fun _ _ z => z
      obtain ⟨h', tk', news', e', F', N', off', hS, r⟩ := hy
      exact ⟨h', tk', news', e', F', N', off', hS, ih (i + 1) (ys ++ [y]) news' (by omega) r⟩
  exact all n 0 [] news (by omega) h0
noncomputable def goodD (row : List UInt8) (d : Nat) : Bool := row.length % d == 0 && (List.replicate (row.length / d) (row.take d)).flatten == row
noncomputable def partsF (row : List UInt8) : List Nat := ((List.range row.length).map (· + 1)).filter (goodD row)
theorem perF_eq (row : List UInt8) : perF row = (partsF row).headD 1 := rfl
theorem partsF_head {row : List UInt8} (hne : row ≠ []) : (partsF row)[0]? = some (perF row) ∧ 1 ≤ perF row ∧ perF row ≤ row.length := by
  have hl := List.length_pos_iff.mpr hne
  have hmem : row.length ∈ partsF row := by
    unfold partsF
    rw [List.mem_filter]
    refine ⟨List.mem_map.mpr ⟨row.length - 1, List.mem_range.mpr (by omega), by omega⟩, ?_⟩
    unfold goodD
    simp [Nat.div_self hl]
  have h0 : (partsF row)[0]? = some (perF row) := by
    rw [perF_eq]
    cases e : partsF row with
    | nil => rw [e] at hmem; cases hmem
    | cons a r => rfl
  refine ⟨h0, ?_⟩
  have := List.mem_of_getElem? h0
  unfold partsF at this
  obtain ⟨k, hk, e⟩ := List.mem_map.mp (List.mem_filter.mp this).1
  have := List.mem_range.mp hk
  omega
theorem minB_mem {rows : List (List UInt8)} (h : rows ≠ []) : minB rows ∈ rows := by
  rcases (minB_le rows (rows.headD [])).2 with q | q
  · exact q
  · cases rows with
    | nil => exact absurd rfl h
    | cons a t => unfold minB; rw [q]; exact .head _
theorem rootF_len {row : List UInt8} (hne : row ≠ []) : (rootF row).length = perF row := by
  obtain ⟨_, h1, h2⟩ := partsF_head hne
  have : rootF row ∈ turnsF row := minB_mem (by unfold turnsF; intro e; have := congrArg List.length e; simp at this; omega)
  unfold turnsF at this
  obtain ⟨k, hk, e⟩ := List.mem_map.mp this
  have := List.mem_range.mp hk
  rw [← e]
  simp
  omega
theorem toldL_snoc {rows : List (List UInt8)} {i : Nat} {row : List UInt8} (h : rows[i]? = some row) : toldL (rows.take (i + 1)) = toldL (rows.take i) ++ List.replicate (row.length / perF row) (rootF row) := by
  rw [List.take_add_one, h]
  simp [toldL]
theorem toldL_le {rows : List (List UInt8)} {i : Nat} : (toldL (rows.take i)).length ≤ (toldL rows).length := by
  have e : toldL rows = toldL (rows.take i) ++ toldL (rows.drop i) := by unfold toldL; rw [← List.flatMap_append, List.take_append_drop]
  rw [e, List.length_append]
  omega
/-- what _law_told turns: its two cells, its list, the pairs, each ref's key -/
structure TS where
  op : Obj
  oR : Obj
  its : List Value
  n : Nat
  tups : List (Addr × Obj)
  key : Value → PB
noncomputable def TOk (apart : List Addr) (ks : List PB) (c : TS) : Prop :=
  ((∃ x, c.op.data = .cell x) ∧ ∃ x, c.oR.data = .cell x) ∧ (∀ q ∈ c.tups, q.1 ∉ apart) ∧ (∀ v ∈ c.its, ∃ a t u, v = .ref a ∧ (a, tupB (c.key v).1 t (c.key v).2 u) ∈ c.tups) ∧ c.its.map c.key = ks
theorem told_call {w : World} {dp un : Nat} {fr gd} {s : Shared} {h₀ : Heap} {lr : Addr} {vs : List Value} {rows : List (List UInt8)} {size : Nat} {t : Tok} {R : Result → Shared → Prop}
    (H : At w h₀ s []) (hdp : dp < 870) (hu : un < 8700) (hl : s.heap.IsList lr vs.toArray) (hv : BytesAre vs rows) (hrow : ∀ r ∈ rows, r ≠ [] ∧ r.length ≤ 6) (hsize : size < 100)
    (h2 : 2 ≤ (toldL rows).length) (h64 : (toldL rows).length < 64)
    (h : ∀ h' tk D vs' n T, KeepBut [] s.heap h' → s.heap.get? D = none → h'.get? D = some (listOf vs'.toArray n) → BytesAre vs' T → T.Perm (toldL rows) → (T.map fun r => (cut r size, r)).Pairwise (fun a b => plt b a = false) → R (.ok (.ret (.ref D))) { s with heap := h', toks := tk }) :
    codeAny (model PP w) (AA dp un fr gd) (.call (.ref 216) ⟨[.ref lr, .int (size : Int) t], []⟩) R s := by
  refine enterC H (by k_is) (by k_is) (by show dp < 1000; omega) (BindsTo.of_eq rfl) (by rfl) (by decide) ?_
  intro p loose mg mb g L h₁ tk₁ cells hg X T F N hC hlt'
  obtain ⟨oc, oc2, hoc, hcd, hcd2⟩ := CellsAre.two hC
  subst hoc
  clear hC
  k_fold
  rw [List.append_nil] at N
  have hlg : g.IsList lr vs.toArray := by rw [hg]; exact hl
  have hvl : vs.length = rows.length := hv.length
  ((repeat' (first | walk_at "use" | walk_at "cutx" | (k_unfold; try dsimp only) | ((fail_if_success (with_reducible (refine stopAt ?_ ?_; rotate_left; first | exact s1 | exact s2 | exact s3 | exact s4 | exact s5 | exact s16 | exact s6 | exact s8 | exact s11 | exact s12 | exact s23 | exact s24 | exact s9 | exact s10 | exact s7))); (fail_if_success (with_reducible first | show LCg.CompSrc _ _ _ _ _ _ _ _ _ _ _ _ _ _ | show LCt.CompSrcT _ _ _ _ _ _ _ _ _ _ _ _ _ _ _ | show LCp.SrcLP _ _ _ _ _ _ _ _ _ _ _ _ _ _ _ | show LCg.CompEnd _ _ _ _ _ _ _ _ _ _ _ _ _ _)); first | walk1 | (dsimp only; walk1)))); walk_at "kend")
  refine wpAny_For ?_
  ((repeat' (first | walk_at "use" | walk_at "cutx" | (k_unfold; try dsimp only) | ((fail_if_success (with_reducible (refine stopAt ?_ ?_; rotate_left; first | exact s1 | exact s2 | exact s3 | exact s4 | exact s5 | exact s16 | exact s6 | exact s8 | exact s11 | exact s12 | exact s23 | exact s24 | exact s9 | exact s10 | exact s7))); (fail_if_success (with_reducible first | show LCg.CompSrc _ _ _ _ _ _ _ _ _ _ _ _ _ _ | show LCt.CompSrcT _ _ _ _ _ _ _ _ _ _ _ _ _ _ _ | show LCp.SrcLP _ _ _ _ _ _ _ _ _ _ _ _ _ _ _ | show LCg.CompEnd _ _ _ _ _ _ _ _ _ _ _ _ _ _)); first | walk1 | (dsimp only; walk1)))); walk_at "kend")
  rename Fr _ _ _ _ => F₁
  rename News _ _ _ _ => N₁
  rename_i lt _ hl1 h₂ _ _
  have z1 := N₁ _ (.head _)
  refine for_list (σ := TS) rfl hlg (fun _ _ => [("rows", .ref lr), ("size", .int (size : Int) t), ("told", .ref lt)])
    (fun _ c => (lt, listOf c.its.toArray c.n) :: (L + 1 + 1, c.op) :: (L + 1, c.oR) :: c.tups)
    (fun i c => TOk [h₂.objs.size, lr, lt, L + 1 + 1, L + 1] ((toldL (rows.take i)).map fun r => (cut r size, r)) c) ⟨oc, oc2, [], 0, [], fun _ => ([], [])⟩ ?_ F₁ (by (repeat' (first | exact fmn | refine fmc (@rfl (Option Value) (some _)) ?_))) N₁ ?_ ?_ ?_
  · rintro i c ⟨_, hc1, _⟩ p hp
    have zr : ∀ {a : Addr} {o : Obj}, (a, o) ∈ [(lt, listOf #[] 0), (L + 1 + 1, oc), (L + 1, oc2)] → a ≠ h₂.objs.size ∧ a ≠ lr := fun {a o} hm => by
      have z := N₁ _ hm
      refine ⟨Nat.ne_of_lt (Heap.lt_size z.1), fun e => ?_⟩
      obtain ⟨ol, hol, _⟩ := id hlg
      have := z.2.2
      rw [show (a, o).1 = lr from e, hol] at this; cases this
    (revert p; refine fmc ?_ fun p hp => ?_)
    · exact zr (.head _)
    · (revert p; refine fmc ?_ fun p hp => ?_)
      · exact zr (.tail _ (.head _))
      · (revert p; refine fmc ?_ fun p hp => ?_)
        · exact zr (.tail _ (.tail _ (.head _)))
        · have := hc1 p hp; simp only [List.mem_cons, not_or] at this; exact ⟨this.1, this.2.1⟩
  · exact ⟨⟨⟨_, hcd⟩, ⟨_, hcd2⟩⟩, (fun _ hq => nomatch hq), (fun _ hq => nomatch hq), by simp [toldL]⟩
  · rintro i ⟨oP, oR, its, n, tups, key⟩ v u h₃ tk₃ own hvi hc hown ⟨oI, hoI⟩ F₃ N₃
    obtain ⟨row, hrow'⟩ : ∃ row, rows[i]? = some row := ⟨rows[i]'(by have := (List.getElem?_eq_some_iff.mp hvi).1; omega), by simp⟩
    obtain ⟨tv, hvv⟩ := hv.get i row hrow'
    have : v = .bytes row.toArray tv := by
      rw [hvv] at hvi; exact (Option.some.inj hvi).symm
    subst this
    obtain ⟨hrne, hrl⟩ := hrow row (List.mem_of_getElem? hrow')
    obtain ⟨hc1, hc2, hc3, hc4⟩ := hc
    obtain ⟨⟨xP, hxP⟩, ⟨xR, hxR⟩⟩ := hc1
    dsimp only [kstB] at F₃ N₃ ⊢
    dsimp only at hc2 hc3 hc4 hxP hxR
    have N₃ : News g L h₃ ((lt, listOf its.toArray n) :: (L + 1 + 1, oP) :: (L + 1, oR) :: (tups ++ own)) := N₃
    have hown : ∀ q ∈ own, q.1 = h₂.objs.size := hown
    have zI : lt < h₂.objs.size := Heap.lt_size z1.1
    have hrest : ∀ q ∈ tups ++ own, q.1 ≠ lt ∧ q.1 ≠ L + 1 + 1 ∧ q.1 ≠ L + 1 := by
      intro q hq
      rcases List.mem_append.mp hq with hq | hq
      · have := hc2 q hq
        simp only [List.mem_cons, List.not_mem_nil, or_false, not_or] at this
        exact ⟨this.2.2.1, this.2.2.2.1, this.2.2.2.2⟩
      · rw [hown q hq]
        exact ⟨Nat.ne_of_gt zI, Nat.ne_of_gt (Nat.lt_trans hl1.1 zI), Nat.ne_of_gt (Nat.lt_trans hl1.2 zI)⟩
    ((repeat' (first | walk_at "use" | walk_at "cutx" | (k_unfold; try dsimp only) | ((fail_if_success (with_reducible (refine stopAt ?_ ?_; rotate_left; first | exact s1 | exact s2 | exact s3 | exact s4 | exact s5 | exact s16 | exact s6 | exact s8 | exact s11 | exact s12 | exact s23 | exact s24 | exact s9 | exact s10 | exact s7))); (fail_if_success (with_reducible first | show LCg.CompSrc _ _ _ _ _ _ _ _ _ _ _ _ _ _ | show LCt.CompSrcT _ _ _ _ _ _ _ _ _ _ _ _ _ _ _ | show LCp.SrcLP _ _ _ _ _ _ _ _ _ _ _ _ _ _ _ | show LCg.CompEnd _ _ _ _ _ _ _ _ _ _ _ _ _ _)); first | walk1 | (dsimp only; walk1)))); walk_at "kend")
    refine storeX_C F₃ N₃ (by rfl) (UpdF.tail (Nat.ne_of_gt hl1.2) (UpdF.tail (Nat.ne_of_gt (Nat.lt_succ_self _)) (UpdF.head fun q hq => (hrest q hq).2.2))) hxR ?_
    intro h₄ oR' F₄ N₄ hR'
    clear N₃ F₃
    ((repeat' (first | walk_at "use" | walk_at "cutx" | (k_unfold; try dsimp only) | ((fail_if_success (with_reducible (refine stopAt ?_ ?_; rotate_left; first | exact s1 | exact s2 | exact s3 | exact s4 | exact s5 | exact s16 | exact s6 | exact s8 | exact s11 | exact s12 | exact s23 | exact s24 | exact s9 | exact s10 | exact s7))); (fail_if_success (with_reducible first | show LCg.CompSrc _ _ _ _ _ _ _ _ _ _ _ _ _ _ | show LCt.CompSrcT _ _ _ _ _ _ _ _ _ _ _ _ _ _ _ | show LCp.SrcLP _ _ _ _ _ _ _ _ _ _ _ _ _ _ _ | show LCg.CompEnd _ _ _ _ _ _ _ _ _ _ _ _ _ _)); first | walk1 | (dsimp only; walk1)))); walk_at "kend")
    walk1
    ((repeat' (first | walk_at "use" | walk_at "cutx" | (k_unfold; try dsimp only) | ((fail_if_success (with_reducible (refine stopAt ?_ ?_; rotate_left; first | exact s1 | exact s2 | exact s3 | exact s4 | exact s5 | exact s16 | exact s6 | exact s8 | exact s11 | exact s12 | exact s23 | exact s24 | exact s9 | exact s10 | exact s7))); (fail_if_success (with_reducible first | show LCg.CompSrc _ _ _ _ _ _ _ _ _ _ _ _ _ _ | show LCt.CompSrcT _ _ _ _ _ _ _ _ _ _ _ _ _ _ _ | show LCp.SrcLP _ _ _ _ _ _ _ _ _ _ _ _ _ _ _ | show LCg.CompEnd _ _ _ _ _ _ _ _ _ _ _ _ _ _)); first | walk1 | (dsimp only; walk1)))); walk_at "kend")
    refine LCt.ListComp_T (F₀ := F₄) (by rfl) (by decide) (by rfl) (by decide) (by rfl) ?_
    ((repeat' (first | walk_at "use" | walk_at "cutx" | (k_unfold; try dsimp only) | ((fail_if_success (with_reducible (refine stopAt ?_ ?_; rotate_left; first | exact s1 | exact s2 | exact s3 | exact s4 | exact s5 | exact s16 | exact s6 | exact s8 | exact s11 | exact s12 | exact s23 | exact s24 | exact s9 | exact s10 | exact s7))); (fail_if_success (with_reducible first | show LCg.CompSrc _ _ _ _ _ _ _ _ _ _ _ _ _ _ | show LCt.CompSrcT _ _ _ _ _ _ _ _ _ _ _ _ _ _ _ | show LCp.SrcLP _ _ _ _ _ _ _ _ _ _ _ _ _ _ _ | show LCg.CompEnd _ _ _ _ _ _ _ _ _ _ _ _ _ _)); first | walk1 | (dsimp only; walk1)))); walk_at "kend")
    rename IsRange _ _ _ _ _ _ _ _ => hr
    rename Fr _ _ _ _ => F₅
    rename News _ _ _ _ => N₅
    rw [show ((row.toArray.size : Nat) : Int) = (row.length : Int) by simp] at hr
    refine LCt.CompSrcT.range rfl F₅ N₅ hr (range1_small _ (by omega)) (range1_size _) (by rw [sizeLine_eq]; omega) ?_
    intro g'
    refine compRestT_of (fun i ys news => news = (lt, listOf its.toArray n) :: (L + 1 + 1, oP) :: (L + 1, oR') :: (tups ++ own) ∧ IntsAre ys ((((List.range i).map (· + 1)).filter (goodD row)).map fun (d : Nat) => (d : Int))) ⟨rfl, .nil⟩ ?_ ?_
    · rintro j ys news v I oI C oC D m₂ h₅ tk₅ E' hj ⟨rfl, hys⟩ ⟨tv₂, rfl⟩ hoC hm₂ F₆ N₆ hoff hne
      simp only [LCg.Off3] at hoff
      rw [show (1 : Int) + (j : Int) = ((j + 1 : Nat) : Int) by omega] at hm₂
      dsimp only
      ((repeat' (first | walk_at "use" | walk_at "cutx" | (k_unfold; try dsimp only) | ((fail_if_success (with_reducible (refine stopAt ?_ ?_; rotate_left; first | exact s1 | exact s2 | exact s3 | exact s4 | exact s5 | exact s16 | exact s6 | exact s8 | exact s11 | exact s12 | exact s23 | exact s24 | exact s9 | exact s10 | exact s7))); (fail_if_success (with_reducible first | show LCg.CompSrc _ _ _ _ _ _ _ _ _ _ _ _ _ _ | show LCt.CompSrcT _ _ _ _ _ _ _ _ _ _ _ _ _ _ _ | show LCp.SrcLP _ _ _ _ _ _ _ _ _ _ _ _ _ _ _ | show LCg.CompEnd _ _ _ _ _ _ _ _ _ _ _ _ _ _)); first | walk1 | (dsimp only; walk1)))); walk_at "kend")
      · rename (_ : Int).fmod _ = 0 => hmod
        rw [fmodN (n := row.length) (by simp)] at hmod
        refine bcut_to (s := ⟨_, _, _, _, _⟩) F₆ N₆ (by omega) ?_
        intro h₇ t₇ k₇ F₇ N₇
        ((repeat' (first | walk_at "use" | walk_at "cutx" | (k_unfold; try dsimp only) | ((fail_if_success (with_reducible (refine stopAt ?_ ?_; rotate_left; first | exact s1 | exact s2 | exact s3 | exact s4 | exact s5 | exact s16 | exact s6 | exact s8 | exact s11 | exact s12 | exact s23 | exact s24 | exact s9 | exact s10 | exact s7))); (fail_if_success (with_reducible first | show LCg.CompSrc _ _ _ _ _ _ _ _ _ _ _ _ _ _ | show LCt.CompSrcT _ _ _ _ _ _ _ _ _ _ _ _ _ _ _ | show LCp.SrcLP _ _ _ _ _ _ _ _ _ _ _ _ _ _ _ | show LCg.CompEnd _ _ _ _ _ _ _ _ _ _ _ _ _ _)); first | walk1 | (dsimp only; walk1)))); walk_at "kend")
        refine bytes_mul_any (by rw [Ne, List.take_eq_nil_iff]; simp [hrne]) (by rw [fdivN (n := row.length) (by simp)]; exact Int.le_trans (by omega) (Int.natCast_nonneg _)) (by rw [fdivN (n := row.length) (by simp)]; exact Int.le_trans (Int.ofNat_le.mpr (Nat.div_le_self row.length (j + 1))) (by omega)) (by simp; omega) ?_
        intro t₈ k₈
        ((repeat' (first | walk_at "use" | walk_at "cutx" | (k_unfold; try dsimp only) | ((fail_if_success (with_reducible (refine stopAt ?_ ?_; rotate_left; first | exact s1 | exact s2 | exact s3 | exact s4 | exact s5 | exact s16 | exact s6 | exact s8 | exact s11 | exact s12 | exact s23 | exact s24 | exact s9 | exact s10 | exact s7))); (fail_if_success (with_reducible first | show LCg.CompSrc _ _ _ _ _ _ _ _ _ _ _ _ _ _ | show LCt.CompSrcT _ _ _ _ _ _ _ _ _ _ _ _ _ _ _ | show LCp.SrcLP _ _ _ _ _ _ _ _ _ _ _ _ _ _ _ | show LCg.CompEnd _ _ _ _ _ _ _ _ _ _ _ _ _ _)); first | walk1 | (dsimp only; walk1)))); walk_at "kend")
        all_goals rename (_ == _) = _ => heq
        all_goals (rw [fdivN (n := row.length) (by simp), Int.toNat_natCast, List.toList_toArray, List.toList_toArray] at heq)
        · refine CompEnd.mk' F₇ N₇ ⟨hoff.1, hoff.2.1, hoff.2.2.1, hoff.2.2.2⟩ trivial ⟨rfl, ?_⟩
          rw [List.range_succ, List.map_append, List.filter_append]
          simp only [List.map_cons, List.map_nil, List.filter_cons, List.filter_nil]
          rw [if_pos (by unfold goodD; rw [heq, Bool.and_true, beq_iff_eq]; omega), List.map_append]
          exact hys.append (.cons _ _ .nil)
        · refine CompEnd.mk' F₇ N₇ ⟨hoff.1, hoff.2.1, hoff.2.2.1, hoff.2.2.2⟩ trivial ⟨rfl, ?_⟩
          rw [List.range_succ, List.map_append, List.filter_append]
          simp only [List.map_cons, List.map_nil, List.filter_cons, List.filter_nil]
          rw [if_neg (by unfold goodD; rw [heq, Bool.and_false]; exact Bool.false_ne_true), List.append_nil]
          exact hys
      · rename (_ : Int).fmod _ ≠ 0 => hmod
        rw [fmodN (n := row.length) (by simp)] at hmod
        refine CompEnd.mk' F₆ N₆ ⟨hoff.1, hoff.2.1, hoff.2.2.1, hoff.2.2.2⟩ trivial ⟨rfl, ?_⟩
        rw [List.range_succ, List.map_append, List.filter_append]
        simp only [List.map_cons, List.map_nil, List.filter_cons, List.filter_nil]
        rw [if_neg (by unfold goodD; simp; intro e; omega), List.append_nil]
        exact hys
    · rintro ys news ⟨rfl, hys⟩
      (try clear F₅); (try clear N₅); (try clear hr); (try clear F₄); (try clear N₄)
      ((repeat' (first | walk_at "use" | walk_at "cutx" | (k_unfold; try dsimp only) | ((fail_if_success (with_reducible (refine stopAt ?_ ?_; rotate_left; first | exact s1 | exact s2 | exact s3 | exact s4 | exact s5 | exact s16 | exact s6 | exact s8 | exact s11 | exact s12 | exact s23 | exact s24 | exact s9 | exact s10 | exact s7))); (fail_if_success (with_reducible first | show LCg.CompSrc _ _ _ _ _ _ _ _ _ _ _ _ _ _ | show LCt.CompSrcT _ _ _ _ _ _ _ _ _ _ _ _ _ _ _ | show LCp.SrcLP _ _ _ _ _ _ _ _ _ _ _ _ _ _ _ | show LCg.CompEnd _ _ _ _ _ _ _ _ _ _ _ _ _ _)); first | walk1 | (dsimp only; walk1)))); walk_at "kend")
      rename Fr _ _ _ _ => F₆
      rename News _ _ _ _ => N₆
      rename (_ ≠ _) ∧ _ => hoD
      rename_i Dp h₆ tk₆ _ _
      have hys' : IntsAre ys ((partsF row).map fun (d : Nat) => (d : Int)) := hys
      obtain ⟨hp0, hp1, hp2⟩ := partsF_head hrne
      obtain ⟨tp, hy0⟩ := hys'.get 0 (perF row : Int) (by rw [List.getElem?_map, hp0]; rfl)
      have hysl : ys.length < 2 ^ 60 := by
        rw [hys'.length, List.length_map]
        exact Nat.lt_of_le_of_lt (List.length_filter_le _ _) (by simp; omega)
      have hoDr : ∀ q ∈ tups ++ own, q.1 ≠ Dp := off1_mem hoD.2.2.2
      refine storeX_C F₆ N₆ (by rfl) (UpdF.tail (Ne.symm hoD.2.1) (UpdF.tail (Nat.ne_of_gt hl1.1) (UpdF.head fun q hq => ?_))) hxP ?_
      · (revert q; refine fmc ?_ fun q hq => ?_)
        · exact Nat.ne_of_lt (Nat.lt_succ_self _)
        · exact (hrest q hq).2.1
      intro h₇ oP' F₇ N₇ hP'
      clear F₆ N₆
      ((repeat' (first | walk_at "use" | walk_at "cutx" | (k_unfold; try dsimp only) | ((fail_if_success (with_reducible (refine stopAt ?_ ?_; rotate_left; first | exact s1 | exact s2 | exact s3 | exact s4 | exact s5 | exact s16 | exact s6 | exact s8 | exact s11 | exact s12 | exact s23 | exact s24 | exact s9 | exact s10 | exact s7))); (fail_if_success (with_reducible first | show LCg.CompSrc _ _ _ _ _ _ _ _ _ _ _ _ _ _ | show LCt.CompSrcT _ _ _ _ _ _ _ _ _ _ _ _ _ _ _ | show LCp.SrcLP _ _ _ _ _ _ _ _ _ _ _ _ _ _ _ | show LCg.CompEnd _ _ _ _ _ _ _ _ _ _ _ _ _ _)); first | walk1 | (dsimp only; walk1)))); walk_at "kend")
      refine LCg.ListComp_U (F₀ := F₇) (by rfl) (by decide) (by rfl) (by decide) (by rfl) ?_
      ((repeat' (first | walk_at "use" | walk_at "cutx" | (k_unfold; try dsimp only) | ((fail_if_success (with_reducible (refine stopAt ?_ ?_; rotate_left; first | exact s1 | exact s2 | exact s3 | exact s4 | exact s5 | exact s16 | exact s6 | exact s8 | exact s11 | exact s12 | exact s23 | exact s24 | exact s9 | exact s10 | exact s7))); (fail_if_success (with_reducible first | show LCg.CompSrc _ _ _ _ _ _ _ _ _ _ _ _ _ _ | show LCt.CompSrcT _ _ _ _ _ _ _ _ _ _ _ _ _ _ _ | show LCp.SrcLP _ _ _ _ _ _ _ _ _ _ _ _ _ _ _ | show LCg.CompEnd _ _ _ _ _ _ _ _ _ _ _ _ _ _)); first | walk1 | (dsimp only; walk1)))); walk_at "kend")
      refine item_ N₇ (.head _) (by omega) hy0 hysl ?_
      ((repeat' (first | walk_at "use" | walk_at "cutx" | (k_unfold; try dsimp only) | ((fail_if_success (with_reducible (refine stopAt ?_ ?_; rotate_left; first | exact s1 | exact s2 | exact s3 | exact s4 | exact s5 | exact s16 | exact s6 | exact s8 | exact s11 | exact s12 | exact s23 | exact s24 | exact s9 | exact s10 | exact s7))); (fail_if_success (with_reducible first | show LCg.CompSrc _ _ _ _ _ _ _ _ _ _ _ _ _ _ | show LCt.CompSrcT _ _ _ _ _ _ _ _ _ _ _ _ _ _ _ | show LCp.SrcLP _ _ _ _ _ _ _ _ _ _ _ _ _ _ _ | show LCg.CompEnd _ _ _ _ _ _ _ _ _ _ _ _ _ _)); first | walk1 | (dsimp only; walk1)))); walk_at "kend")
      rename IsRange _ _ _ _ _ _ _ _ => hr
      rename Fr _ _ _ _ => F₈
      rename News _ _ _ _ => N₈
      refine LCg.CompSrc.range rfl F₈ N₈ hr (range_small _ (by omega)) (range_size _) (by rw [sizeLine_eq]; omega) ?_
      intro g₂
      refine compRest_of (fun i zs news => news = (Dp, LCg.lst ys) :: (lt, listOf its.toArray n) :: (L + 1 + 1, oP') :: (L + 1, oR') :: (tups ++ own) ∧ BytesAre zs ((List.range i).map fun k => (row.take (perF row)).drop k ++ row.take k)) ⟨rfl, .nil⟩ ?_ ?_
      · rintro j zs news v I oI C oC D m₂ h₈ tk₈ E' hj ⟨rfl, hzs⟩ ⟨tv₂, rfl⟩ hoC hm₂ F₉ N₉ hoff hne
        simp only [LCg.Off3] at hoff
        rw [show (0 : Int) + (j : Int) = (j : Int) by omega] at hm₂
        dsimp only
        ((repeat' (first | walk_at "use" | walk_at "cutx" | (k_unfold; try dsimp only) | ((fail_if_success (with_reducible (refine stopAt ?_ ?_; rotate_left; first | exact s1 | exact s2 | exact s3 | exact s4 | exact s5 | exact s16 | exact s6 | exact s8 | exact s11 | exact s12 | exact s23 | exact s24 | exact s9 | exact s10 | exact s7))); (fail_if_success (with_reducible first | show LCg.CompSrc _ _ _ _ _ _ _ _ _ _ _ _ _ _ | show LCt.CompSrcT _ _ _ _ _ _ _ _ _ _ _ _ _ _ _ | show LCp.SrcLP _ _ _ _ _ _ _ _ _ _ _ _ _ _ _ | show LCg.CompEnd _ _ _ _ _ _ _ _ _ _ _ _ _ _)); first | walk1 | (dsimp only; walk1)))); walk_at "kend")
        rename Fr _ _ _ _ => F₁₀
        rename News _ _ _ _ => N₁₀
        refine item_ N₁₀ (.tail _ (.tail _ (.tail _ (.head _)))) (by omega) hy0 hysl ?_
        ((repeat' (first | walk_at "use" | walk_at "cutx" | (k_unfold; try dsimp only) | ((fail_if_success (with_reducible (refine stopAt ?_ ?_; rotate_left; first | exact s1 | exact s2 | exact s3 | exact s4 | exact s5 | exact s16 | exact s6 | exact s8 | exact s11 | exact s12 | exact s23 | exact s24 | exact s9 | exact s10 | exact s7))); (fail_if_success (with_reducible first | show LCg.CompSrc _ _ _ _ _ _ _ _ _ _ _ _ _ _ | show LCt.CompSrcT _ _ _ _ _ _ _ _ _ _ _ _ _ _ _ | show LCp.SrcLP _ _ _ _ _ _ _ _ _ _ _ _ _ _ _ | show LCg.CompEnd _ _ _ _ _ _ _ _ _ _ _ _ _ _)); first | walk1 | (dsimp only; walk1)))); walk_at "kend")
        refine bcut_mid (s := ⟨_, _, _, _, _⟩) F₁₀ N₁₀ (by omega) ?_
        intro h₁₁ t₁₁ k₁₁ F₁₁ N₁₁
        ((repeat' (first | walk_at "use" | walk_at "cutx" | (k_unfold; try dsimp only) | ((fail_if_success (with_reducible (refine stopAt ?_ ?_; rotate_left; first | exact s1 | exact s2 | exact s3 | exact s4 | exact s5 | exact s16 | exact s6 | exact s8 | exact s11 | exact s12 | exact s23 | exact s24 | exact s9 | exact s10 | exact s7))); (fail_if_success (with_reducible first | show LCg.CompSrc _ _ _ _ _ _ _ _ _ _ _ _ _ _ | show LCt.CompSrcT _ _ _ _ _ _ _ _ _ _ _ _ _ _ _ | show LCp.SrcLP _ _ _ _ _ _ _ _ _ _ _ _ _ _ _ | show LCg.CompEnd _ _ _ _ _ _ _ _ _ _ _ _ _ _)); first | walk1 | (dsimp only; walk1)))); walk_at "kend")
        refine bcut_to (s := ⟨_, _, _, _, _⟩) F₁₁ N₁₁ (by omega) ?_
        intro h₁₂ t₁₂ k₁₂ F₁₂ N₁₂
        ((repeat' (first | walk_at "use" | walk_at "cutx" | (k_unfold; try dsimp only) | ((fail_if_success (with_reducible (refine stopAt ?_ ?_; rotate_left; first | exact s1 | exact s2 | exact s3 | exact s4 | exact s5 | exact s16 | exact s6 | exact s8 | exact s11 | exact s12 | exact s23 | exact s24 | exact s9 | exact s10 | exact s7))); (fail_if_success (with_reducible first | show LCg.CompSrc _ _ _ _ _ _ _ _ _ _ _ _ _ _ | show LCt.CompSrcT _ _ _ _ _ _ _ _ _ _ _ _ _ _ _ | show LCp.SrcLP _ _ _ _ _ _ _ _ _ _ _ _ _ _ _ | show LCg.CompEnd _ _ _ _ _ _ _ _ _ _ _ _ _ _)); first | walk1 | (dsimp only; walk1)))); walk_at "kend")
        refine badd (by simp; omega) ?_
        intro t₁₃ k₁₃
        ((repeat' (first | walk_at "use" | walk_at "cutx" | (k_unfold; try dsimp only) | ((fail_if_success (with_reducible (refine stopAt ?_ ?_; rotate_left; first | exact s1 | exact s2 | exact s3 | exact s4 | exact s5 | exact s16 | exact s6 | exact s8 | exact s11 | exact s12 | exact s23 | exact s24 | exact s9 | exact s10 | exact s7))); (fail_if_success (with_reducible first | show LCg.CompSrc _ _ _ _ _ _ _ _ _ _ _ _ _ _ | show LCt.CompSrcT _ _ _ _ _ _ _ _ _ _ _ _ _ _ _ | show LCp.SrcLP _ _ _ _ _ _ _ _ _ _ _ _ _ _ _ | show LCg.CompEnd _ _ _ _ _ _ _ _ _ _ _ _ _ _)); first | walk1 | (dsimp only; walk1)))); walk_at "kend")
        refine CompEnd.mk' F₁₂ N₁₂ ⟨hoff.1, hoff.2.1, hoff.2.2.1, hoff.2.2.2.1, hoff.2.2.2.2⟩ trivial ⟨rfl, ?_⟩
        rw [List.range_succ, List.map_append]
        exact hzs.snoc _ _
      · rintro zs news ⟨rfl, hzs⟩
        (try clear F₈); (try clear N₈); (try clear hr); (try clear F₇); (try clear N₇)
        ((repeat' (first | walk_at "use" | walk_at "cutx" | (k_unfold; try dsimp only) | ((fail_if_success (with_reducible (refine stopAt ?_ ?_; rotate_left; first | exact s1 | exact s2 | exact s3 | exact s4 | exact s5 | exact s16 | exact s6 | exact s8 | exact s11 | exact s12 | exact s23 | exact s24 | exact s9 | exact s10 | exact s7))); (fail_if_success (with_reducible first | show LCg.CompSrc _ _ _ _ _ _ _ _ _ _ _ _ _ _ | show LCt.CompSrcT _ _ _ _ _ _ _ _ _ _ _ _ _ _ _ | show LCp.SrcLP _ _ _ _ _ _ _ _ _ _ _ _ _ _ _ | show LCg.CompEnd _ _ _ _ _ _ _ _ _ _ _ _ _ _)); first | walk1 | (dsimp only; walk1)))); walk_at "kend")
        rename Fr _ _ _ _ => F₉
        rename News _ _ _ _ => N₉
        rename (_ ≠ _) ∧ _ => hoZ
        rename_i Dz h₉ tk₉ _ _
        refine min_bytes (rows := turnsF row) rfl F₉ N₉ (.head _) hzs (by unfold turnsF; simp; omega) ?_
        intro h₁₀ tr k₁₀ F₁₀ N₁₀
        clear F₉ N₉
        ((repeat' (first | walk_at "use" | walk_at "cutx" | (k_unfold; try dsimp only) | ((fail_if_success (with_reducible (refine stopAt ?_ ?_; rotate_left; first | exact s1 | exact s2 | exact s3 | exact s4 | exact s5 | exact s16 | exact s6 | exact s8 | exact s11 | exact s12 | exact s23 | exact s24 | exact s9 | exact s10 | exact s7))); (fail_if_success (with_reducible first | show LCg.CompSrc _ _ _ _ _ _ _ _ _ _ _ _ _ _ | show LCt.CompSrcT _ _ _ _ _ _ _ _ _ _ _ _ _ _ _ | show LCp.SrcLP _ _ _ _ _ _ _ _ _ _ _ _ _ _ _ | show LCg.CompEnd _ _ _ _ _ _ _ _ _ _ _ _ _ _)); first | walk1 | (dsimp only; walk1)))); walk_at "kend")
        refine wpAny_For ?_
        ((repeat' (first | walk_at "use" | walk_at "cutx" | (k_unfold; try dsimp only) | ((fail_if_success (with_reducible (refine stopAt ?_ ?_; rotate_left; first | exact s1 | exact s2 | exact s3 | exact s4 | exact s5 | exact s16 | exact s6 | exact s8 | exact s11 | exact s12 | exact s23 | exact s24 | exact s9 | exact s10 | exact s7))); (fail_if_success (with_reducible first | show LCg.CompSrc _ _ _ _ _ _ _ _ _ _ _ _ _ _ | show LCt.CompSrcT _ _ _ _ _ _ _ _ _ _ _ _ _ _ _ | show LCp.SrcLP _ _ _ _ _ _ _ _ _ _ _ _ _ _ _ | show LCg.CompEnd _ _ _ _ _ _ _ _ _ _ _ _ _ _)); first | walk1 | (dsimp only; walk1)))); walk_at "kend")
        rename Fr _ _ _ _ => F₁₁
        rename News _ _ _ _ => N₁₁
        refine item_ N₁₁ (.tail _ (.head _)) (by omega) hy0 hysl ?_
        ((repeat' (first | walk_at "use" | walk_at "cutx" | (k_unfold; try dsimp only) | ((fail_if_success (with_reducible (refine stopAt ?_ ?_; rotate_left; first | exact s1 | exact s2 | exact s3 | exact s4 | exact s5 | exact s16 | exact s6 | exact s8 | exact s11 | exact s12 | exact s23 | exact s24 | exact s9 | exact s10 | exact s7))); (fail_if_success (with_reducible first | show LCg.CompSrc _ _ _ _ _ _ _ _ _ _ _ _ _ _ | show LCt.CompSrcT _ _ _ _ _ _ _ _ _ _ _ _ _ _ _ | show LCp.SrcLP _ _ _ _ _ _ _ _ _ _ _ _ _ _ _ | show LCg.CompEnd _ _ _ _ _ _ _ _ _ _ _ _ _ _)); first | walk1 | (dsimp only; walk1)))); walk_at "kend")
        rename IsRange _ _ _ _ _ _ _ _ => hr
        rename Fr _ _ _ _ => F₁₂
        rename News _ _ _ _ => N₁₂
        rename_i h₁₂ _ _ _ _ _
        rw [fdivN (n := row.length) rfl] at hr
        have hlh : ∀ q ∈ (Dz, LCg.lst zs) :: (Dp, LCg.lst ys) :: (lt, listOf its.toArray n) :: (L + 1 + 1, oP') :: (L + 1, oR') :: (tups ++ own), q.1 < h₁₂.objs.size := fun q hq => Heap.lt_size (N₁₂ q hq).1
        have hZr : ∀ q ∈ tups ++ own, q.1 ≠ Dz := off1_mem hoZ.2.2.2.2
        obtain ⟨ol, hol, _⟩ := id hlg
        let fixed : List (Addr × Obj) := (Dz, LCg.lst zs) :: (Dp, LCg.lst ys) :: (L + 1 + 1, oP') :: (L + 1, oR') :: own
        have hfix : ∀ q ∈ fixed, q.1 ≠ lt := by
          intro q hq
          (revert q; refine fmc ?_ fun q hq => ?_)
          · exact Ne.symm hoZ.2.1
          · (revert q; refine fmc ?_ fun q hq => ?_)
            · exact Ne.symm hoD.1
            · (revert q; refine fmc ?_ fun q hq => ?_)
              · exact Nat.ne_of_lt hl1.1
              · (revert q; refine fmc ?_ fun q hq => ?_)
                · exact Nat.ne_of_lt hl1.2
                · exact (hrest q (List.mem_append_right _ hq)).1
        refine for_range (σ := TS) rfl hr (Nat.lt_of_le_of_lt (Nat.div_le_self _ _) (by omega)) (fun _ _ => [("rows", .ref lr), ("size", .int (size : Int) t), ("told", .ref lt), ("root", .bytes (rootF row).toArray tr)])
          (fun _ c => (lt, listOf c.its.toArray c.n) :: (c.tups ++ fixed))
          (fun j c => TOk [h₁₂.objs.size, Dz, Dp, h₂.objs.size, lr, lt, L + 1 + 1, L + 1] (((toldL (rows.take i)) ++ List.replicate j (rootF row)).map fun r => (cut r size, r)) c) ⟨oP', oR', its, n, tups, key⟩ ?_ F₁₂ (by (repeat' (first | exact fmn | refine fmc (@rfl (Option Value) (some _)) ?_))) ?_ ?_ ?_ ?_
        · rintro j c hc p hp
          (revert p; refine fmc ?_ fun p hp => ?_)
          · exact Nat.ne_of_lt (hlh (lt, listOf its.toArray n) (.tail _ (.tail _ (.head _))))
          · rcases List.mem_append.mp hp with hp | hp
            · have := hc.2.1 p hp; simp only [List.mem_cons, not_or] at this; exact this.1
            · rcases List.mem_cons.mp hp with rfl | hp
              · exact Nat.ne_of_lt (hlh _ (.head _))
              · rcases List.mem_cons.mp hp with rfl | hp
                · exact Nat.ne_of_lt (hlh _ (.tail _ (.head _)))
                · rcases List.mem_cons.mp hp with rfl | hp
                  · exact Nat.ne_of_lt (hlh _ (.tail _ (.tail _ (.tail _ (.head _)))))
                  · rcases List.mem_cons.mp hp with rfl | hp
                    · exact Nat.ne_of_lt (hlh _ (.tail _ (.tail _ (.tail _ (.tail _ (.head _))))))
                    · exact Nat.ne_of_lt (hlh _ (.tail _ (.tail _ (.tail _ (.tail _ (.tail _ (List.mem_append_right _ hp)))))))
        · intro p hp
          refine N₁₂ p ?_
          (revert p; refine fmc ?_ fun p hp => ?_)
          · exact .tail _ (.tail _ (.head _))
          · rcases List.mem_append.mp hp with hp | hp
            · exact .tail _ (.tail _ (.tail _ (.tail _ (.tail _ (List.mem_append_left _ hp)))))
            · rcases List.mem_cons.mp hp with rfl | hp
              · exact .head _
              · rcases List.mem_cons.mp hp with rfl | hp
                · exact .tail _ (.head _)
                · rcases List.mem_cons.mp hp with rfl | hp
                  · exact .tail _ (.tail _ (.tail _ (.head _)))
                  · rcases List.mem_cons.mp hp with rfl | hp
                    · exact .tail _ (.tail _ (.tail _ (.tail _ (.head _))))
                    · exact .tail _ (.tail _ (.tail _ (.tail _ (.tail _ (List.mem_append_right _ hp)))))
        · refine ⟨⟨⟨_, hP'⟩, ⟨_, hR'⟩⟩, fun q hq => ?_, hc3, by rw [List.replicate_zero, List.append_nil]; exact hc4⟩
          have h1 := hc2 q hq
          simp only [List.mem_cons, not_or] at h1 ⊢
          exact ⟨Nat.ne_of_lt (hlh _ (.tail _ (.tail _ (.tail _ (.tail _ (.tail _ (List.mem_append_left _ hq))))))), hZr _ (List.mem_append_left _ hq), hoDr _ (List.mem_append_left _ hq), h1⟩
        · rintro j ⟨oP₂, oR₂, its₂, n₂, tups₂, key₂⟩ tj u₂ h₁₃ k₁₃ own' hj
          refine ela2 fun hd0 hd1 hd2 hd3 => ?_
          rintro hown' ⟨oI', hoI'⟩ F₁₃ N₁₃
          dsimp only [kstB] at hd0 hd1 hd2 hd3 F₁₃ N₁₃ ⊢
          ((repeat' (first | walk_at "use" | walk_at "cutx" | (k_unfold; try dsimp only) | ((fail_if_success (with_reducible (refine stopAt ?_ ?_; rotate_left; first | exact s1 | exact s2 | exact s3 | exact s4 | exact s5 | exact s16 | exact s6 | exact s8 | exact s11 | exact s12 | exact s23 | exact s24 | exact s9 | exact s10 | exact s7))); (fail_if_success (with_reducible first | show LCg.CompSrc _ _ _ _ _ _ _ _ _ _ _ _ _ _ | show LCt.CompSrcT _ _ _ _ _ _ _ _ _ _ _ _ _ _ _ | show LCp.SrcLP _ _ _ _ _ _ _ _ _ _ _ _ _ _ _ | show LCg.CompEnd _ _ _ _ _ _ _ _ _ _ _ _ _ _)); first | walk1 | (dsimp only; walk1)))); walk_at "kend")
          refine bytes_mul_any (b := rootF row) (by intro e; have := rootF_len hrne; rw [e] at this; simp at this; omega) (by omega) (by omega) (by rw [rootF_len hrne]; omega) ?_
          intro t₁₄ k₁₄
          ((repeat' (first | walk_at "use" | walk_at "cutx" | (k_unfold; try dsimp only) | ((fail_if_success (with_reducible (refine stopAt ?_ ?_; rotate_left; first | exact s1 | exact s2 | exact s3 | exact s4 | exact s5 | exact s16 | exact s6 | exact s8 | exact s11 | exact s12 | exact s23 | exact s24 | exact s9 | exact s10 | exact s7))); (fail_if_success (with_reducible first | show LCg.CompSrc _ _ _ _ _ _ _ _ _ _ _ _ _ _ | show LCt.CompSrcT _ _ _ _ _ _ _ _ _ _ _ _ _ _ _ | show LCp.SrcLP _ _ _ _ _ _ _ _ _ _ _ _ _ _ _ | show LCg.CompEnd _ _ _ _ _ _ _ _ _ _ _ _ _ _)); first | walk1 | (dsimp only; walk1)))); walk_at "kend")
          rename Fr _ _ _ _ => F₁₄
          rename News _ _ _ _ => N₁₄
          refine bcut_to (s := ⟨_, _, _, _, _⟩) F₁₄ N₁₄ (by
            rw [List.length_flatten, List.map_replicate, List.sum_replicate_nat, Int.toNat_natCast, rootF_len hrne]
            have := Nat.mul_le_mul (Nat.le_of_lt hsize) (show perF row ≤ 16 by omega)
            omega) ?_
          intro h₁₅ t₁₅ k₁₅ F₁₅ N₁₅
          ((repeat' (first | walk_at "use" | walk_at "cutx" | (k_unfold; try dsimp only) | ((fail_if_success (with_reducible (refine stopAt ?_ ?_; rotate_left; first | exact s1 | exact s2 | exact s3 | exact s4 | exact s5 | exact s16 | exact s6 | exact s8 | exact s11 | exact s12 | exact s23 | exact s24 | exact s9 | exact s10 | exact s7))); (fail_if_success (with_reducible first | show LCg.CompSrc _ _ _ _ _ _ _ _ _ _ _ _ _ _ | show LCt.CompSrcT _ _ _ _ _ _ _ _ _ _ _ _ _ _ _ | show LCp.SrcLP _ _ _ _ _ _ _ _ _ _ _ _ _ _ _ | show LCg.CompEnd _ _ _ _ _ _ _ _ _ _ _ _ _ _)); first | walk1 | (dsimp only; walk1)))); walk_at "kend")
          rename Fr _ _ _ _ => F₁₆
          rename News _ _ _ _ => N₁₆
          rename_i nt h₁₆ hnt _ _
          have N₁₆ : News g L h₁₆ ((nt, tupB (cut (rootF row) size) t₁₅ (rootF row) tr) :: (lt, listOf its₂.toArray n₂) :: ((tups₂ ++ fixed) ++ own')) := N₁₆
          have hnlt : nt ≠ lt := Nat.ne_of_gt (hnt _ (.head _))
          have hilt : lt < h₁₂.objs.size := hlh (lt, listOf its.toArray n) (.tail _ (.tail _ (.head _)))
          have hown' : ∀ q ∈ own', q.1 = h₁₂.objs.size := hown'
          have hrl : ∀ q ∈ (tups₂ ++ fixed) ++ own', q.1 ≠ lt := by
            intro q hq
            rcases List.mem_append.mp hq with hq | hq
            · rcases List.mem_append.mp hq with hq | hq
              · have := hd1 q hq; simp only [List.mem_cons, not_or] at this; exact this.2.2.2.2.2.1
              · exact hfix q hq
            · rw [hown' q hq]; exact Nat.ne_of_gt hilt
          have hl2 : its₂.length < 1000 := by
            have := congrArg List.length hd3
            rw [List.length_map, List.length_map, List.length_append, List.length_replicate] at this
            have := toldL_le (rows := rows) (i := i)
            have := Nat.div_le_self row.length (perF row)
            omega
          refine append_K F₁₆ N₁₆ (Upd.tail hnlt (Upd.head hrl)) ?_ (by rw [List.size_toArray, sizeLine_eq]; omega)
          intro h₁₇ F₁₇ N₁₇
          rw [List.push_toArray] at N₁₇
          ((repeat' (first | walk_at "use" | walk_at "cutx" | (k_unfold; try dsimp only) | ((fail_if_success (with_reducible (refine stopAt ?_ ?_; rotate_left; first | exact s1 | exact s2 | exact s3 | exact s4 | exact s5 | exact s16 | exact s6 | exact s8 | exact s11 | exact s12 | exact s23 | exact s24 | exact s9 | exact s10 | exact s7))); (fail_if_success (with_reducible first | show LCg.CompSrc _ _ _ _ _ _ _ _ _ _ _ _ _ _ | show LCt.CompSrcT _ _ _ _ _ _ _ _ _ _ _ _ _ _ _ | show LCp.SrcLP _ _ _ _ _ _ _ _ _ _ _ _ _ _ _ | show LCg.CompEnd _ _ _ _ _ _ _ _ _ _ _ _ _ _)); first | walk1 | (dsimp only; walk1)))); walk_at "kend")
          let key' : Value → PB := fun v => if v = .ref nt then (cut (rootF row) size, rootF row) else key₂ v
          have hkey : key' (.ref nt) = (cut (rootF row) size, rootF row) := by simp [key']
          have hold : ∀ v ∈ its₂, key' v = key₂ v := by
            intro v hv'
            obtain ⟨a, ta, ua, rfl, hm⟩ := hd2 v hv'
            have : a < nt := hnt (a, _) (List.mem_append_left _ (.tail _ (List.mem_append_left _ hm)))
            simp [key', Nat.ne_of_lt this]
          refine FEnd.mk' ⟨oP₂, oR₂, its₂ ++ [.ref nt], n₂ + 1, (nt, tupB (cut (rootF row) size) t₁₅ (rootF row) tr) :: tups₂, key'⟩ F₁₇ (by (repeat' (first | exact fmn | refine fmc (@rfl (Option Value) (some _)) ?_))) N₁₇ ?_ ?_ ⟨hd0, ?_, ?_, ?_⟩
          · intro p hp
            (revert p; refine fmc ?_ fun p hp => ?_)
            · exact .tail _ (.head _)
            · (revert p; refine fmc ?_ fun p hp => ?_)
              · exact .head _
              · exact .tail _ (.tail _ (List.mem_append_left _ hp))
          · intro p hp; exact .tail _ (.tail _ (List.mem_append_right _ hp))
          · intro q hq
            (revert q; refine fmc ?_ fun q hq => ?_)
            · have hx : ∀ q ∈ fixed, nt ≠ q.1 := fun q hq => Nat.ne_of_gt (hnt q (List.mem_append_left _ (.tail _ (List.mem_append_right _ hq))))
              have a1 := hnt _ (List.mem_append_right _ hoI')
              have a2 : nt ≠ h₂.objs.size := hx _ (.tail _ (.tail _ (.tail _ (.tail _ hoI))))
              have a4 : nt ≠ lr := fun e => by have := (N₁₆ _ (.head _)).2.2; rw [show nt = lr from e, hol] at this; cases this
              simp only [List.mem_cons, List.not_mem_nil, or_false, not_or]
              exact ⟨Nat.ne_of_gt a1, hx _ (.head _), hx _ (.tail _ (.head _)), a2, a4, hnlt, hx _ (.tail _ (.tail _ (.head _))), hx _ (.tail _ (.tail _ (.tail _ (.head _))))⟩
            · exact hd1 q hq
          · intro v hv'
            rcases List.mem_append.mp hv' with hm | hm
            · obtain ⟨a, ta, ua, e, hq⟩ := hd2 v hm
              exact ⟨a, ta, ua, e, .tail _ (by show (a, tupB (key' v).1 ta (key' v).2 ua) ∈ tups₂; rw [hold v hm]; exact hq)⟩
            · rw [List.mem_singleton.mp hm]
              exact ⟨nt, t₁₅, tr, rfl, by show (nt, tupB (key' (.ref nt)).1 t₁₅ (key' (.ref nt)).2 tr) ∈ _; rw [hkey]; exact .head _⟩
          · show (its₂ ++ [Value.ref nt]).map key' = _
            simp only [List.map_append, List.map_cons, List.map_nil, List.map_congr_left hold, hd3, hkey, List.replicate_succ', List.append_assoc]
        · rintro ⟨oP₂, oR₂, its₂, n₂, tups₂, key₂⟩ u₂ h₁₃ k₁₃
          refine ela2 fun hd0 hd1 hd2 hd3 => ?_
          rintro F₁₃ N₁₃
          dsimp only [kstB] at hd0 hd1 hd2 hd3 F₁₃ N₁₃ ⊢
          ((repeat' (first | walk_at "use" | walk_at "cutx" | (k_unfold; try dsimp only) | ((fail_if_success (with_reducible (refine stopAt ?_ ?_; rotate_left; first | exact s1 | exact s2 | exact s3 | exact s4 | exact s5 | exact s16 | exact s6 | exact s8 | exact s11 | exact s12 | exact s23 | exact s24 | exact s9 | exact s10 | exact s7))); (fail_if_success (with_reducible first | show LCg.CompSrc _ _ _ _ _ _ _ _ _ _ _ _ _ _ | show LCt.CompSrcT _ _ _ _ _ _ _ _ _ _ _ _ _ _ _ | show LCp.SrcLP _ _ _ _ _ _ _ _ _ _ _ _ _ _ _ | show LCg.CompEnd _ _ _ _ _ _ _ _ _ _ _ _ _ _)); first | walk1 | (dsimp only; walk1)))); walk_at "kend")
          refine FEnd.mk' ⟨oP', oR', its₂, n₂, tups₂, key₂⟩ F₁₃ (by (repeat' (first | exact fmn | refine fmc (@rfl (Option Value) (some _)) ?_))) N₁₃ ?_ ?_ ⟨⟨⟨_, hP'⟩, ⟨_, hR'⟩⟩, ?_, hd2, ?_⟩
          · intro p hp
            (revert p; refine fmc ?_ fun p hp => ?_)
            · exact .head _
            · (revert p; refine fmc ?_ fun p hp => ?_)
              · exact .tail _ (List.mem_append_right _ (.tail _ (.tail _ (.head _))))
              · (revert p; refine fmc ?_ fun p hp => ?_)
                · exact .tail _ (List.mem_append_right _ (.tail _ (.tail _ (.tail _ (.head _)))))
                · exact .tail _ (List.mem_append_left _ hp)
          · intro p hp; exact .tail _ (List.mem_append_right _ (.tail _ (.tail _ (.tail _ (.tail _ hp)))))
          · intro q hq hm
            exact hd1 q hq (.tail _ (.tail _ (.tail _ hm)))
          · rw [toldL_snoc hrow']
            exact hd3
  · rintro ⟨oP, oR, its, n, tups, key⟩ u h₃ tk₃
    refine ela2 fun hc1 hc2 hc3 hc4 => ?_
    rintro F₃ N₃
    dsimp only [kstB] at hc1 hc2 hc3 hc4 F₃ N₃ ⊢
    rw [show rows.take vs.length = rows by rw [hvl, List.take_length]] at hc4
    have hlen : its.length = (toldL rows).length := by
      have := congrArg List.length hc4
      rwa [List.length_map, List.length_map] at this
    ((repeat' (first | walk_at "use" | walk_at "cutx" | (k_unfold; try dsimp only) | ((fail_if_success (with_reducible (refine stopAt ?_ ?_; rotate_left; first | exact s1 | exact s2 | exact s3 | exact s4 | exact s5 | exact s16 | exact s6 | exact s8 | exact s11 | exact s12 | exact s23 | exact s24 | exact s9 | exact s10 | exact s7))); (fail_if_success (with_reducible first | show LCg.CompSrc _ _ _ _ _ _ _ _ _ _ _ _ _ _ | show LCt.CompSrcT _ _ _ _ _ _ _ _ _ _ _ _ _ _ _ | show LCp.SrcLP _ _ _ _ _ _ _ _ _ _ _ _ _ _ _ | show LCg.CompEnd _ _ _ _ _ _ _ _ _ _ _ _ _ _)); first | walk1 | (dsimp only; walk1)))); walk_at "kend")
    refine LCp.ListComp_P (F₀ := F₃) (by rfl) (by decide) (by rfl) (by decide) (by rfl) (by rfl) (by decide) ?_
    ((repeat' (first | walk_at "use" | walk_at "cutx" | (k_unfold; try dsimp only) | ((fail_if_success (with_reducible (refine stopAt ?_ ?_; rotate_left; first | exact s1 | exact s2 | exact s3 | exact s4 | exact s5 | exact s16 | exact s6 | exact s8 | exact s11 | exact s12 | exact s23 | exact s24 | exact s9 | exact s10 | exact s7))); (fail_if_success (with_reducible first | show LCg.CompSrc _ _ _ _ _ _ _ _ _ _ _ _ _ _ | show LCt.CompSrcT _ _ _ _ _ _ _ _ _ _ _ _ _ _ _ | show LCp.SrcLP _ _ _ _ _ _ _ _ _ _ _ _ _ _ _ | show LCg.CompEnd _ _ _ _ _ _ _ _ _ _ _ _ _ _)); first | walk1 | (dsimp only; walk1)))); walk_at "kend")
    refine sorted_pairs (key := key) F₃ N₃ (.head _) (fun v hv => ?_) (by omega) (by omega) ?_
    · obtain ⟨a, ta, ua, e, hm⟩ := hc3 v hv
      exact ⟨a, ta, ua, e, .tail _ (.tail _ (.tail _ hm))⟩
    intro D n' h₄ out F₄ N₄ hD hperm hsort
    ((repeat' (first | walk_at "use" | walk_at "cutx" | (k_unfold; try dsimp only) | ((fail_if_success (with_reducible (refine stopAt ?_ ?_; rotate_left; first | exact s1 | exact s2 | exact s3 | exact s4 | exact s5 | exact s16 | exact s6 | exact s8 | exact s11 | exact s12 | exact s23 | exact s24 | exact s9 | exact s10 | exact s7))); (fail_if_success (with_reducible first | show LCg.CompSrc _ _ _ _ _ _ _ _ _ _ _ _ _ _ | show LCt.CompSrcT _ _ _ _ _ _ _ _ _ _ _ _ _ _ _ | show LCp.SrcLP _ _ _ _ _ _ _ _ _ _ _ _ _ _ _ | show LCg.CompEnd _ _ _ _ _ _ _ _ _ _ _ _ _ _)); first | walk1 | (dsimp only; walk1)))); walk_at "kend")
    have hol : out.length = its.length := hperm.length_eq
    have hkeys : ∀ k ∈ out.map key, k = (cut k.2 size, k.2) := by
      intro k hk
      have : k ∈ its.map key := (hperm.map key).mem_iff.mp hk
      rw [hc4] at this
      obtain ⟨r, _, rfl⟩ := List.mem_map.mp this
      rfl
    refine LCp.SrcLP.ledger rfl F₄ N₄ (.head _) (by rw [List.size_toArray, sizeLine_eq]; omega) ?_
    intro g'
    refine compRestP_of (fun i ys news => news = (D, listOf out.toArray n') :: (lt, listOf its.toArray n) :: (L + 1 + 1, oP) :: (L + 1, oR) :: tups ∧ BytesAre ys (((out.map key).map (·.2)).take i)) ⟨rfl, .nil⟩ ?_ ?_
    · rintro i ys news v hi ⟨rfl, hys⟩ hvi
      have hvi : out[i]? = some v := by simpa using hvi
      have hvm : v ∈ its := hperm.mem_iff.mp (List.mem_of_getElem? hvi)
      obtain ⟨a, ta, ua, rfl, hm⟩ := hc3 v hvm
      refine ⟨a, _, _, _, _, rfl, .tail _ (.tail _ (.tail _ (.tail _ hm))), rfl, rfl, ?_⟩
      intro I oI C oC D₂ m₂ h₅ tk₅ E' hoC hx1 hx2 F₅ N₅ hoff hne
      dsimp only
      ((repeat' (first | walk_at "use" | walk_at "cutx" | (k_unfold; try dsimp only) | ((fail_if_success (with_reducible (refine stopAt ?_ ?_; rotate_left; first | exact s1 | exact s2 | exact s3 | exact s4 | exact s5 | exact s16 | exact s6 | exact s8 | exact s11 | exact s12 | exact s23 | exact s24 | exact s9 | exact s10 | exact s7))); (fail_if_success (with_reducible first | show LCg.CompSrc _ _ _ _ _ _ _ _ _ _ _ _ _ _ | show LCt.CompSrcT _ _ _ _ _ _ _ _ _ _ _ _ _ _ _ | show LCp.SrcLP _ _ _ _ _ _ _ _ _ _ _ _ _ _ _ | show LCg.CompEnd _ _ _ _ _ _ _ _ _ _ _ _ _ _)); first | walk1 | (dsimp only; walk1)))); walk_at "kend")
      refine CompEnd.mk' F₅ N₅ hoff (.inr ⟨_, .head _, rfl, _, rfl⟩) ⟨rfl, ?_⟩
      rw [List.take_add_one]
      have : ((out.map key).map (·.2))[i]? = some (key (.ref a)).2 := by rw [List.getElem?_map, List.getElem?_map, hvi]; rfl
      rw [this]
      exact hys.snoc _ _
    · rintro ys news ⟨rfl, hys⟩
      rw [List.size_toArray, List.take_of_length_le (by simp)] at hys
      ((repeat' (first | walk_at "use" | walk_at "cutx" | (k_unfold; try dsimp only) | ((fail_if_success (with_reducible (refine stopAt ?_ ?_; rotate_left; first | exact s1 | exact s2 | exact s3 | exact s4 | exact s5 | exact s16 | exact s6 | exact s8 | exact s11 | exact s12 | exact s23 | exact s24 | exact s9 | exact s10 | exact s7))); (fail_if_success (with_reducible first | show LCg.CompSrc _ _ _ _ _ _ _ _ _ _ _ _ _ _ | show LCt.CompSrcT _ _ _ _ _ _ _ _ _ _ _ _ _ _ _ | show LCp.SrcLP _ _ _ _ _ _ _ _ _ _ _ _ _ _ _ | show LCg.CompEnd _ _ _ _ _ _ _ _ _ _ _ _ _ _)); first | walk1 | (dsimp only; walk1)))); walk_at "kend")
      rename Fr _ _ _ _ => F₅
      rename News _ _ _ _ => N₅
      have w0 := N₅ _ (.head _)
      refine h _ _ _ ys ys.length ((out.map key).map (·.2)) (fun b o hb e => F₅.keep b o (by rw [hg]; exact e)) ?_ w0.1 hys ?_ ?_
      · have := w0.2.2
        rw [hg] at this
        exact this
      · have h1 := (hperm.map key).map (fun k : PB => k.2)
        rw [hc4, List.map_map] at h1
        simpa [Function.comp_def] using h1
      · have e : ((out.map key).map (fun k : PB => k.2)).map (fun r => (cut r size, r)) = out.map key := by
          rw [List.map_map]
          conv => rhs; rw [← List.map_id (out.map key)]
          exact List.map_congr_left fun k hk => (hkeys k hk).symm
        rw [e]
        exact hsort
end Mine
end

section
open PySem PySem.W PySem.Calls PyProof.Rows PySem.MeetsSeq
set_option Elab.async false
set_option maxRecDepth 100000
set_option maxHeartbeats 4000000
set_option linter.unusedVariables false
namespace Mine
theorem fillHd : hd.heap_1 = hd.heap_1 ∧ Challenge.rw_oy0121_01 = Challenge.rw_oy0121_01 := by k_fill; exact ⟨rfl, rfl⟩
/-- what is asked of a row for its way through the text -/
noncomputable def RowOk (x y : UInt8) (r : List UInt8) : Bool := decide (r.length ≤ 6) && decide (encF r x y = octF (writtenF r x y)) && (writtenF r x y).all (fun c => decide (c < 256)) && decide ((writtenF r x y).length ≤ 8) && decOk (octF (writtenF r x y)) x y && decide (decF (octF (writtenF r x y)) x y = r)
theorem RowOk.get {x y : UInt8} {r : List UInt8} (h : RowOk x y r = true) : r.length ≤ 6 ∧ encF r x y = octF (writtenF r x y) ∧ (∀ c ∈ writtenF r x y, c < 256) ∧ (writtenF r x y).length ≤ 8 ∧ decOk (octF (writtenF r x y)) x y = true ∧ decF (octF (writtenF r x y)) x y = r := by
  unfold RowOk at h
  simp only [Bool.and_eq_true, decide_eq_true_eq, List.all_eq_true] at h
  obtain ⟨⟨⟨⟨⟨a, b⟩, c⟩, d⟩, e⟩, f⟩ := h
  exact ⟨a, b, c, d, e, f⟩
noncomputable def wordsF (rows : List (List UInt8)) (x y : UInt8) : List (List Nat) := rows.map fun r => writtenF r x y
/-- the words spelled, one behind the other -/
noncomputable def piecesF (rows : List (List UInt8)) (x y : UInt8) (way : Int) : List (List Nat) := (List.range rows.length).map fun k => spelledF ((wordsF rows x y).getD k []) (way + (k : Int))
theorem sepOf_len (k : Int) : (sepOf k).length ≤ 2 := by
  unfold sepOf
  repeat' split
  all_goals decide
theorem spelledF_len (l : List Nat) (way : Int) : (spelledF l way).length ≤ 2 * l.length + 2 := by
  unfold spelledF
  split
  · have := esc_len [34, 92] l
    simp; omega
  · have := esc_len [34, 92, 32, 10] l
    have := sepOf_len ((way.fdiv 2).fmod 4)
    simp; omega
theorem bytes_append {vs us : List Value} {a b : List (List UInt8)} (h : BytesAre vs a) (h' : BytesAre us b) : BytesAre (vs ++ us) (a ++ b) := by
  induction h with
  | nil => exact h'
  | cons r t _ ih => exact .cons r t ih
theorem heard_call {w : World} {dp un : Nat} {fr gd} {s : Shared} {h₀ : Heap} {lr : Addr} {vs : List Value} {rows : List (List UInt8)} {x y : UInt8} {way : Int} {tp tw : Tok} {ps : Array Value} {cs : List (Addr × Obj)} {R : Result → Shared → Prop}
    (H : At w h₀ s ((196, tabObj ps) :: cs)) (hT : TabSt ps cs) (Tp : ∃ p loose mean mg mb, Top p loose mean mg mb h₀) (hdp : dp < 850) (hu : un < 8500) (hl : s.heap.IsList lr vs.toArray) (hlr : lr ≠ 196 ∧ ∀ q ∈ cs, q.1 ≠ lr) (hv : BytesAre vs rows)
    (hrow : ∀ r ∈ rows, RowOk x y r = true) (hn : rows.length ≤ 1000) (hlex : Lexes (wordsF rows x y) (piecesF rows x y way).flatten)
    (h : ∀ h' tk ps' cs' D vs' n, KeepBut [196] s.heap h' → TabSt ps' cs' → (∀ q ∈ (196, tabObj ps') :: cs', h'.get? q.1 = some q.2 ∧ h₀.get? q.1 = none) → s.heap.get? D = none → h'.get? D = some (listOf vs'.toArray n) → BytesAre vs' rows → R (.ok (.ret (.ref D))) { s with heap := h', toks := tk }) :
    codeAny (model PP w) (AA dp un fr gd) (.call (.ref 221) ⟨[.ref lr, .bytes #[x, y] tp, .int way tw], []⟩) R s := by
  refine enterC (binds := [("rows", .ref lr), ("pair", .bytes #[x, y] tp), ("way", .int way tw)]) H (by k_is) (by k_is) (by show dp < 1000; omega) (BindsTo.of_eq rfl) (by rfl) (by decide) ?_
  intro p loose mg mb g L h₁ tk₁ cells hg X T F N hC hlt'
  obtain ⟨oc, oc2, oc3, hoc, hcd, hcd2, hcd3⟩ := CellsAre.three hC
  subst hoc
  clear hC
  k_fold
  replace hcd := (show oc.data = .cell none from hcd)
  replace hcd2 := (show oc2.data = .cell (some (.int way tw)) from hcd2)
  replace hcd3 := (show oc3.data = .cell (some (.bytes #[x, y] tp)) from hcd3)
  simp only [List.cons_append, List.nil_append] at N
  have hlg : g.IsList lr vs.toArray := by
    obtain ⟨o, e, r⟩ := hl
    refine ⟨o, hg ▸ hideAll_get _ e fun q => ?_, r⟩
    obtain ⟨c, hc, e2⟩ := List.mem_map.mp q
    rcases List.mem_cons.mp hc with rfl | hc
    · exact hlr.1 e2.symm
    · exact hlr.2 c hc e2
  have hvl : vs.length = rows.length := hv.length
  obtain ⟨p₂, l₂, me₂, mg₂, mb₂, Tp'⟩ : ∃ p loose mean mg mb, Top p loose mean mg mb g := by
    obtain ⟨p, l, me, mg, mb, T⟩ := Tp
    refine ⟨p, l, me, mg, mb, T.keeps fun b o e => hg ▸ hideAll_get _ (H.keep b o e) fun q => ?_⟩
    obtain ⟨r, hr, rfl⟩ := List.mem_map.mp q
    rw [(H.ws r hr).2] at e; cases e
  have hat : ∀ {i : Nat} {v : Value}, vs[i]? = some v → ∃ row t, rows[i]? = some row ∧ v = .bytes row.toArray t ∧ RowOk x y row = true := by
    intro i v hvi
    have hi : i < rows.length := by have := (List.getElem?_eq_some_iff.mp hvi).1; omega
    obtain ⟨t, e⟩ := hv.get i rows[i] (by simp)
    exact ⟨rows[i], t, by simp, by rw [e] at hvi; exact (Option.some.inj hvi).symm, hrow _ (List.getElem_mem hi)⟩
  ((repeat' (first | walk_at "use" | walk_at "cutx" | (k_unfold; try dsimp only) | ((fail_if_success (with_reducible (refine stopAt ?_ ?_; rotate_left; first | exact s1 | exact s2 | exact s3 | exact s4 | exact s5 | exact s16 | exact s6 | exact s8 | exact s11 | exact s12 | exact s25 | exact s23 | exact s24 | exact s9 | exact s10 | exact s7))); (fail_if_success (with_reducible first | show LCg.CompSrc _ _ _ _ _ _ _ _ _ _ _ _ _ _ | show LCt.CompSrcT _ _ _ _ _ _ _ _ _ _ _ _ _ _ _ | show LCp.SrcLP _ _ _ _ _ _ _ _ _ _ _ _ _ _ _ | show LCg.CompEnd _ _ _ _ _ _ _ _ _ _ _ _ _ _)); first | walk1 | (dsimp only; walk1)))); walk_at "kend")
  walk1
  ((repeat' (first | walk_at "use" | walk_at "cutx" | (k_unfold; try dsimp only) | ((fail_if_success (with_reducible (refine stopAt ?_ ?_; rotate_left; first | exact s1 | exact s2 | exact s3 | exact s4 | exact s5 | exact s16 | exact s6 | exact s8 | exact s11 | exact s12 | exact s25 | exact s23 | exact s24 | exact s9 | exact s10 | exact s7))); (fail_if_success (with_reducible first | show LCg.CompSrc _ _ _ _ _ _ _ _ _ _ _ _ _ _ | show LCt.CompSrcT _ _ _ _ _ _ _ _ _ _ _ _ _ _ _ | show LCp.SrcLP _ _ _ _ _ _ _ _ _ _ _ _ _ _ _ | show LCg.CompEnd _ _ _ _ _ _ _ _ _ _ _ _ _ _)); first | walk1 | (dsimp only; walk1)))); walk_at "kend")
  refine LCg.ListComp_U (F₀ := F) (by rfl) (by decide) (by rfl) (by decide) (by rfl) ?_
  ((repeat' (first | walk_at "use" | walk_at "cutx" | (k_unfold; try dsimp only) | ((fail_if_success (with_reducible (refine stopAt ?_ ?_; rotate_left; first | exact s1 | exact s2 | exact s3 | exact s4 | exact s5 | exact s16 | exact s6 | exact s8 | exact s11 | exact s12 | exact s25 | exact s23 | exact s24 | exact s9 | exact s10 | exact s7))); (fail_if_success (with_reducible first | show LCg.CompSrc _ _ _ _ _ _ _ _ _ _ _ _ _ _ | show LCt.CompSrcT _ _ _ _ _ _ _ _ _ _ _ _ _ _ _ | show LCp.SrcLP _ _ _ _ _ _ _ _ _ _ _ _ _ _ _ | show LCg.CompEnd _ _ _ _ _ _ _ _ _ _ _ _ _ _)); first | walk1 | (dsimp only; walk1)))); walk_at "kend")
  refine LCg.CompSrc.base rfl F N hlg (by rw [List.size_toArray, sizeLine_eq]; omega) ?_
  intro g'
  refine compRest_of (fun i ys news => news = (L + 1 + 1 + 1, oc) :: (L + 1 + 1, oc2) :: (L + 1, oc3) :: (196, tabObj ps) :: cs ∧ StrsAre ys ((rows.take i).map fun r => sx (writtenF r x y))) ⟨rfl, .nil⟩ ?_ ?_
  · rintro i ys news v I oI C oC D m₂ h₅ tk₅ E' hi ⟨rfl, hys⟩ hvi hoC hm₂ F₅ N₅ hoff hne
    obtain ⟨row, t, hri, rfl, hok⟩ := hat (show vs[i]? = some v by simpa using hvi)
    simp only [LCg.Off3] at hoff
    dsimp only
    ((repeat' (first | walk_at "use" | walk_at "cutx" | (k_unfold; try dsimp only) | ((fail_if_success (with_reducible (refine stopAt ?_ ?_; rotate_left; first | exact s1 | exact s2 | exact s3 | exact s4 | exact s5 | exact s16 | exact s6 | exact s8 | exact s11 | exact s12 | exact s25 | exact s23 | exact s24 | exact s9 | exact s10 | exact s7))); (fail_if_success (with_reducible first | show LCg.CompSrc _ _ _ _ _ _ _ _ _ _ _ _ _ _ | show LCt.CompSrcT _ _ _ _ _ _ _ _ _ _ _ _ _ _ _ | show LCp.SrcLP _ _ _ _ _ _ _ _ _ _ _ _ _ _ _ | show LCg.CompEnd _ _ _ _ _ _ _ _ _ _ _ _ _ _)); first | walk1 | (dsimp only; walk1)))); walk_at "kend")
    obtain ⟨k1, k2, k3, k4, k5, k6⟩ := RowOk.get hok
    refine wpAny_call (written_call (at_of (ws := []) X T F₅ N₅ (fun _ hq => nomatch hq)) (by show dp + 1 < 880; omega) (by show un + 3 < 8800; omega) k1 ?_)
    intro h₆ tk₆ u₆ K₆
    have F₆ := fr_after F₅ K₆ (by simp) (by simp)
    have N₆ := news_after N₅ K₆ (fun _ _ q => nomatch q)
    dsimp only
    ((repeat' (first | walk_at "use" | walk_at "cutx" | (k_unfold; try dsimp only) | ((fail_if_success (with_reducible (refine stopAt ?_ ?_; rotate_left; first | exact s1 | exact s2 | exact s3 | exact s4 | exact s5 | exact s16 | exact s6 | exact s8 | exact s11 | exact s12 | exact s25 | exact s23 | exact s24 | exact s9 | exact s10 | exact s7))); (fail_if_success (with_reducible first | show LCg.CompSrc _ _ _ _ _ _ _ _ _ _ _ _ _ _ | show LCt.CompSrcT _ _ _ _ _ _ _ _ _ _ _ _ _ _ _ | show LCp.SrcLP _ _ _ _ _ _ _ _ _ _ _ _ _ _ _ | show LCg.CompEnd _ _ _ _ _ _ _ _ _ _ _ _ _ _)); first | walk1 | (dsimp only; walk1)))); walk_at "kend")
    refine CompEnd.mk' F₆ N₆ ⟨hoff.1, hoff.2.1, hoff.2.2.1, hoff.2.2.2.1, hoff.2.2.2.2⟩ (.inl hlg) ⟨rfl, ?_⟩
    rw [List.take_add_one, hri, List.map_append]
    exact strs_snoc hys
  · rintro ys news ⟨rfl, hys⟩
    rw [List.size_toArray, List.take_of_length_le (by omega)] at hys
    ((repeat' (first | walk_at "use" | walk_at "cutx" | (k_unfold; try dsimp only) | ((fail_if_success (with_reducible (refine stopAt ?_ ?_; rotate_left; first | exact s1 | exact s2 | exact s3 | exact s4 | exact s5 | exact s16 | exact s6 | exact s8 | exact s11 | exact s12 | exact s25 | exact s23 | exact s24 | exact s9 | exact s10 | exact s7))); (fail_if_success (with_reducible first | show LCg.CompSrc _ _ _ _ _ _ _ _ _ _ _ _ _ _ | show LCt.CompSrcT _ _ _ _ _ _ _ _ _ _ _ _ _ _ _ | show LCp.SrcLP _ _ _ _ _ _ _ _ _ _ _ _ _ _ _ | show LCg.CompEnd _ _ _ _ _ _ _ _ _ _ _ _ _ _)); first | walk1 | (dsimp only; walk1)))); walk_at "kend")
    rename Fr _ _ _ _ => F₂
    rename News _ _ _ _ => N₂
    rename (_ ≠ _) ∧ _ => hoW
    rename_i W h₂ tk₂ _ _
    have hysl : ys.length = rows.length := by rw [hys.length, List.length_map]
    have hcsL : ∀ q ∈ cs, q.1 ≠ L + 1 ∧ q.1 ≠ L + 1 + 1 ∧ q.1 ≠ L + 1 + 1 + 1 := fun q hq => by
      have h1 : q.1 < L := hlt' q (.tail _ hq)
      exact ⟨Nat.ne_of_lt (Nat.lt_succ_of_lt h1), Nat.ne_of_lt (Nat.lt_succ_of_lt (Nat.lt_succ_of_lt h1)), Nat.ne_of_lt (Nat.lt_succ_of_lt (Nat.lt_succ_of_lt (Nat.lt_succ_of_lt h1)))⟩
    have h196L : (196 : Nat) < L := hlt' _ (.head _)
    have hWne : (196 : Addr) ≠ W := hoW.2.2.2.1
    refine storeX_C F₂ N₂ (by rfl) (UpdF.tail (Ne.symm hoW.1) (UpdF.head fun q hq => ?_)) hcd ?_
    · (revert q; refine fmc ?_ fun q hq => ?_)
      · exact Nat.ne_of_lt (Nat.lt_succ_self _)
      · (revert q; refine fmc ?_ fun q hq => ?_)
        · exact Nat.ne_of_lt (Nat.lt_succ_of_lt (Nat.lt_succ_self _))
        · (revert q; refine fmc ?_ fun q hq => ?_)
          · show (196 : Nat) ≠ L + 1 + 1 + 1; omega
          · exact (hcsL q hq).2.2
    intro h₃ oc' F₃ N₃ hcd'
    clear F₂ N₂
    ((repeat' (first | walk_at "use" | walk_at "cutx" | (k_unfold; try dsimp only) | ((fail_if_success (with_reducible (refine stopAt ?_ ?_; rotate_left; first | exact s1 | exact s2 | exact s3 | exact s4 | exact s5 | exact s16 | exact s6 | exact s8 | exact s11 | exact s12 | exact s25 | exact s23 | exact s24 | exact s9 | exact s10 | exact s7))); (fail_if_success (with_reducible first | show LCg.CompSrc _ _ _ _ _ _ _ _ _ _ _ _ _ _ | show LCt.CompSrcT _ _ _ _ _ _ _ _ _ _ _ _ _ _ _ | show LCp.SrcLP _ _ _ _ _ _ _ _ _ _ _ _ _ _ _ | show LCg.CompEnd _ _ _ _ _ _ _ _ _ _ _ _ _ _)); first | walk1 | (dsimp only; walk1)))); walk_at "kend")
    refine LCg.ListComp_U (F₀ := F₃) (by rfl) (by decide) (by rfl) (by decide) (by rfl) ?_
    ((repeat' (first | walk_at "use" | walk_at "cutx" | (k_unfold; try dsimp only) | ((fail_if_success (with_reducible (refine stopAt ?_ ?_; rotate_left; first | exact s1 | exact s2 | exact s3 | exact s4 | exact s5 | exact s16 | exact s6 | exact s8 | exact s11 | exact s12 | exact s25 | exact s23 | exact s24 | exact s9 | exact s10 | exact s7))); (fail_if_success (with_reducible first | show LCg.CompSrc _ _ _ _ _ _ _ _ _ _ _ _ _ _ | show LCt.CompSrcT _ _ _ _ _ _ _ _ _ _ _ _ _ _ _ | show LCp.SrcLP _ _ _ _ _ _ _ _ _ _ _ _ _ _ _ | show LCg.CompEnd _ _ _ _ _ _ _ _ _ _ _ _ _ _)); first | walk1 | (dsimp only; walk1)))); walk_at "kend")
    refine LCg.CompSrc.base rfl F₃ N₃ hlg (by rw [List.size_toArray, sizeLine_eq]; omega) ?_
    intro g₂
    refine compRest_of (fun i zs news => news = (W, LCg.lst ys) :: (L + 1 + 1 + 1, oc') :: (L + 1 + 1, oc2) :: (L + 1, oc3) :: (196, tabObj ps) :: cs ∧ BytesAre zs ((rows.take i).map fun r => encF r x y)) ⟨rfl, .nil⟩ ?_ ?_
    · rintro i zs news v I oI C oC D m₂ h₅ tk₅ E' hi ⟨rfl, hzs⟩ hvi hoC hm₂ F₅ N₅ hoff hne
      obtain ⟨row, t, hri, rfl, hok⟩ := hat (show vs[i]? = some v by simpa using hvi)
      simp only [LCg.Off3] at hoff
      dsimp only
      ((repeat' (first | walk_at "use" | walk_at "cutx" | (k_unfold; try dsimp only) | ((fail_if_success (with_reducible (refine stopAt ?_ ?_; rotate_left; first | exact s1 | exact s2 | exact s3 | exact s4 | exact s5 | exact s16 | exact s6 | exact s8 | exact s11 | exact s12 | exact s25 | exact s23 | exact s24 | exact s9 | exact s10 | exact s7))); (fail_if_success (with_reducible first | show LCg.CompSrc _ _ _ _ _ _ _ _ _ _ _ _ _ _ | show LCt.CompSrcT _ _ _ _ _ _ _ _ _ _ _ _ _ _ _ | show LCp.SrcLP _ _ _ _ _ _ _ _ _ _ _ _ _ _ _ | show LCg.CompEnd _ _ _ _ _ _ _ _ _ _ _ _ _ _)); first | walk1 | (dsimp only; walk1)))); walk_at "kend")
      obtain ⟨k1, k2, k3, k4, k5, k6⟩ := RowOk.get hok
      refine wpAny_call (b64enc_call (at_of (ws := []) X T F₅ N₅ (fun _ hq => nomatch hq)) (by show dp + 1 < 880; omega) (by show un + 3 < 8800; omega) (by omega) ?_)
      intro h₆ tk₆ u₆ K₆
      have F₆ := fr_after F₅ K₆ (by simp) (by simp)
      have N₆ := news_after N₅ K₆ (fun _ _ q => nomatch q)
      dsimp only
      ((repeat' (first | walk_at "use" | walk_at "cutx" | (k_unfold; try dsimp only) | ((fail_if_success (with_reducible (refine stopAt ?_ ?_; rotate_left; first | exact s1 | exact s2 | exact s3 | exact s4 | exact s5 | exact s16 | exact s6 | exact s8 | exact s11 | exact s12 | exact s25 | exact s23 | exact s24 | exact s9 | exact s10 | exact s7))); (fail_if_success (with_reducible first | show LCg.CompSrc _ _ _ _ _ _ _ _ _ _ _ _ _ _ | show LCt.CompSrcT _ _ _ _ _ _ _ _ _ _ _ _ _ _ _ | show LCp.SrcLP _ _ _ _ _ _ _ _ _ _ _ _ _ _ _ | show LCg.CompEnd _ _ _ _ _ _ _ _ _ _ _ _ _ _)); first | walk1 | (dsimp only; walk1)))); walk_at "kend")
      refine CompEnd.mk' F₆ N₆ hoff (.inl hlg) ⟨rfl, ?_⟩
      rw [List.take_add_one, hri, List.map_append]
      exact hzs.snoc _ _
    · rintro zs news ⟨rfl, hzs⟩
      rw [List.size_toArray, List.take_of_length_le (by omega)] at hzs
      ((repeat' (first | walk_at "use" | walk_at "cutx" | (k_unfold; try dsimp only) | ((fail_if_success (with_reducible (refine stopAt ?_ ?_; rotate_left; first | exact s1 | exact s2 | exact s3 | exact s4 | exact s5 | exact s16 | exact s6 | exact s8 | exact s11 | exact s12 | exact s25 | exact s23 | exact s24 | exact s9 | exact s10 | exact s7))); (fail_if_success (with_reducible first | show LCg.CompSrc _ _ _ _ _ _ _ _ _ _ _ _ _ _ | show LCt.CompSrcT _ _ _ _ _ _ _ _ _ _ _ _ _ _ _ | show LCp.SrcLP _ _ _ _ _ _ _ _ _ _ _ _ _ _ _ | show LCg.CompEnd _ _ _ _ _ _ _ _ _ _ _ _ _ _)); first | walk1 | (dsimp only; walk1)))); walk_at "kend")
      rename Fr _ _ _ _ => F₄
      rename News _ _ _ _ => N₄
      rename (_ ≠ _) ∧ _ => hoZ
      rename_i Z h₄ tk₄ _ _
      refine LCg.ListComp_U (F₀ := F₄) (by rfl) (by decide) (by rfl) (by decide) (by rfl) ?_
      ((repeat' (first | walk_at "use" | walk_at "cutx" | (k_unfold; try dsimp only) | ((fail_if_success (with_reducible (refine stopAt ?_ ?_; rotate_left; first | exact s1 | exact s2 | exact s3 | exact s4 | exact s5 | exact s16 | exact s6 | exact s8 | exact s11 | exact s12 | exact s25 | exact s23 | exact s24 | exact s9 | exact s10 | exact s7))); (fail_if_success (with_reducible first | show LCg.CompSrc _ _ _ _ _ _ _ _ _ _ _ _ _ _ | show LCt.CompSrcT _ _ _ _ _ _ _ _ _ _ _ _ _ _ _ | show LCp.SrcLP _ _ _ _ _ _ _ _ _ _ _ _ _ _ _ | show LCg.CompEnd _ _ _ _ _ _ _ _ _ _ _ _ _ _)); first | walk1 | (dsimp only; walk1)))); walk_at "kend")
      refine LCg.CompSrc.ledger rfl F₄ N₄ (.tail _ (.head _)) (by rw [List.size_toArray, sizeLine_eq]; omega) ?_
      intro g₃
      refine compRest_of (fun i us news => news = (Z, LCg.lst zs) :: (W, LCg.lst ys) :: (L + 1 + 1 + 1, oc') :: (L + 1 + 1, oc2) :: (L + 1, oc3) :: (196, tabObj ps) :: cs ∧ BytesAre us ((rows.take i).map fun r => octF (writtenF r x y))) ⟨rfl, .nil⟩ ?_ ?_
      · rintro i us news v I oI C oC D m₂ h₅ tk₅ E' hi ⟨rfl, hus⟩ hvi hoC hm₂ F₅ N₅ hoff hne
        have hi' : i < rows.length := by rw [List.size_toArray] at hi; omega
        have hri : rows[i]? = some rows[i] := by simp
        have hok := hrow _ (List.getElem_mem hi')
        obtain ⟨t, e⟩ := hys.get i (sx (writtenF rows[i] x y)) (by rw [List.getElem?_map, hri]; rfl)
        have : v = .str (sx (writtenF rows[i] x y)) t := by
          have hvi : ys[i]? = some v := by simpa using hvi
          rw [e] at hvi; exact (Option.some.inj hvi).symm
        subst this
        simp only [LCg.Off3] at hoff
        dsimp only
        ((repeat' (first | walk_at "use" | walk_at "cutx" | (k_unfold; try dsimp only) | ((fail_if_success (with_reducible (refine stopAt ?_ ?_; rotate_left; first | exact s1 | exact s2 | exact s3 | exact s4 | exact s5 | exact s16 | exact s6 | exact s8 | exact s11 | exact s12 | exact s25 | exact s23 | exact s24 | exact s9 | exact s10 | exact s7))); (fail_if_success (with_reducible first | show LCg.CompSrc _ _ _ _ _ _ _ _ _ _ _ _ _ _ | show LCt.CompSrcT _ _ _ _ _ _ _ _ _ _ _ _ _ _ _ | show LCp.SrcLP _ _ _ _ _ _ _ _ _ _ _ _ _ _ _ | show LCg.CompEnd _ _ _ _ _ _ _ _ _ _ _ _ _ _)); first | walk1 | (dsimp only; walk1)))); walk_at "kend")
        obtain ⟨k1, k2, k3, k4, k5, k6⟩ := RowOk.get hok
        refine wpAny_call (octets_call (at_of (ws := []) X T F₅ N₅ (fun _ hq => nomatch hq)) (by show dp + 1 < 880; omega) (by show un + 3 < 8800; omega) (by omega) k3 ?_)
        intro h₆ tk₆ u₆ K₆
        have F₆ := fr_after F₅ K₆ (by simp) (by simp)
        have N₆ := news_after N₅ K₆ (fun _ _ q => nomatch q)
        dsimp only
        ((repeat' (first | walk_at "use" | walk_at "cutx" | (k_unfold; try dsimp only) | ((fail_if_success (with_reducible (refine stopAt ?_ ?_; rotate_left; first | exact s1 | exact s2 | exact s3 | exact s4 | exact s5 | exact s16 | exact s6 | exact s8 | exact s11 | exact s12 | exact s25 | exact s23 | exact s24 | exact s9 | exact s10 | exact s7))); (fail_if_success (with_reducible first | show LCg.CompSrc _ _ _ _ _ _ _ _ _ _ _ _ _ _ | show LCt.CompSrcT _ _ _ _ _ _ _ _ _ _ _ _ _ _ _ | show LCp.SrcLP _ _ _ _ _ _ _ _ _ _ _ _ _ _ _ | show LCg.CompEnd _ _ _ _ _ _ _ _ _ _ _ _ _ _)); first | walk1 | (dsimp only; walk1)))); walk_at "kend")
        refine CompEnd.mk' F₆ N₆ hoff (.inr ⟨_, .tail _ (.head _), rfl, _, rfl⟩) ⟨rfl, ?_⟩
        rw [List.take_add_one, hri, List.map_append]
        exact hus.snoc _ _
      · rintro us news ⟨rfl, hus⟩
        rw [List.size_toArray, List.take_of_length_le (by omega)] at hus
        have e : (rows.map fun r => octF (writtenF r x y)) = rows.map fun r => encF r x y := List.map_congr_left fun r hr => (RowOk.get (hrow r hr)).2.1.symm
        rw [e] at hus
        ((repeat' (first | walk_at "use" | walk_at "cutx" | (k_unfold; try dsimp only) | ((fail_if_success (with_reducible (refine stopAt ?_ ?_; rotate_left; first | exact s1 | exact s2 | exact s3 | exact s4 | exact s5 | exact s16 | exact s6 | exact s8 | exact s11 | exact s12 | exact s25 | exact s23 | exact s24 | exact s9 | exact s10 | exact s7))); (fail_if_success (with_reducible first | show LCg.CompSrc _ _ _ _ _ _ _ _ _ _ _ _ _ _ | show LCt.CompSrcT _ _ _ _ _ _ _ _ _ _ _ _ _ _ _ | show LCp.SrcLP _ _ _ _ _ _ _ _ _ _ _ _ _ _ _ | show LCg.CompEnd _ _ _ _ _ _ _ _ _ _ _ _ _ _)); first | walk1 | (dsimp only; walk1)))); walk_at "kend")
        rename Fr _ _ _ _ => F₅
        rename News _ _ _ _ => N₅
        rename (_ ≠ _) ∧ _ => hoU
        rename_i U h₅ tk₅ _ _
        refine ne_bytsL (News.isList N₅ (.tail _ (.head _))) (News.isList N₅ (.head _)) hzs hus (by k_units) ?_
        rw [show (!decide ((rows.map fun r => encF r x y) = rows.map fun r => encF r x y)) = false by simp]
        have N₅ : News g L h₅ ((W, LCg.lst ys) :: (L + 1 + 1 + 1, oc') :: (L + 1 + 1, oc2) :: (L + 1, oc3) :: (196, tabObj ps) :: cs) := fun p hp => N₅ p (.tail _ (.tail _ hp))
        clear hoU hoZ hzs hus F₄ N₄ F₃ N₃ F N
        ((repeat' (first | walk_at "use" | walk_at "cutx" | (k_unfold; try dsimp only) | ((fail_if_success (with_reducible (refine stopAt ?_ ?_; rotate_left; first | exact s1 | exact s2 | exact s3 | exact s4 | exact s5 | exact s16 | exact s6 | exact s8 | exact s11 | exact s12 | exact s25 | exact s23 | exact s24 | exact s9 | exact s10 | exact s7))); (fail_if_success (with_reducible first | show LCg.CompSrc _ _ _ _ _ _ _ _ _ _ _ _ _ _ | show LCt.CompSrcT _ _ _ _ _ _ _ _ _ _ _ _ _ _ _ | show LCp.SrcLP _ _ _ _ _ _ _ _ _ _ _ _ _ _ _ | show LCg.CompEnd _ _ _ _ _ _ _ _ _ _ _ _ _ _)); first | walk1 | (dsimp only; walk1)))); walk_at "kend")
        refine LCg.ListComp_U (F₀ := F₅) (by rfl) (by decide) (by rfl) (by decide) (by rfl) ?_
        ((repeat' (first | walk_at "use" | walk_at "cutx" | (k_unfold; try dsimp only) | ((fail_if_success (with_reducible (refine stopAt ?_ ?_; rotate_left; first | exact s1 | exact s2 | exact s3 | exact s4 | exact s5 | exact s16 | exact s6 | exact s8 | exact s11 | exact s12 | exact s25 | exact s23 | exact s24 | exact s9 | exact s10 | exact s7))); (fail_if_success (with_reducible first | show LCg.CompSrc _ _ _ _ _ _ _ _ _ _ _ _ _ _ | show LCt.CompSrcT _ _ _ _ _ _ _ _ _ _ _ _ _ _ _ | show LCp.SrcLP _ _ _ _ _ _ _ _ _ _ _ _ _ _ _ | show LCg.CompEnd _ _ _ _ _ _ _ _ _ _ _ _ _ _)); first | walk1 | (dsimp only; walk1)))); walk_at "kend")
        refine len_base F₅ hlg (by omega) ?_
        intro t₆ tk₆
        ((repeat' (first | walk_at "use" | walk_at "cutx" | (k_unfold; try dsimp only) | ((fail_if_success (with_reducible (refine stopAt ?_ ?_; rotate_left; first | exact s1 | exact s2 | exact s3 | exact s4 | exact s5 | exact s16 | exact s6 | exact s8 | exact s11 | exact s12 | exact s25 | exact s23 | exact s24 | exact s9 | exact s10 | exact s7))); (fail_if_success (with_reducible first | show LCg.CompSrc _ _ _ _ _ _ _ _ _ _ _ _ _ _ | show LCt.CompSrcT _ _ _ _ _ _ _ _ _ _ _ _ _ _ _ | show LCp.SrcLP _ _ _ _ _ _ _ _ _ _ _ _ _ _ _ | show LCg.CompEnd _ _ _ _ _ _ _ _ _ _ _ _ _ _)); first | walk1 | (dsimp only; walk1)))); walk_at "kend")
        rename IsRange _ _ _ _ _ _ _ _ => hr
        rename Fr _ _ _ _ => F₆
        rename News _ _ _ _ => N₆
        rw [hvl] at hr
        refine LCg.CompSrc.range rfl F₆ N₆ hr (range_small _ (by omega)) (range_size _) (by rw [sizeLine_eq]; omega) ?_
        intro g₄
        have hwk : ∀ i, i < rows.length → ∃ t, ys[i]? = some (.str (sx ((wordsF rows x y).getD i [])) t) ∧ ((wordsF rows x y).getD i []).length ≤ 8 := by
          intro i hi
          have e : (wordsF rows x y).getD i [] = writtenF rows[i] x y := by unfold wordsF; simp [hi]
          rw [e]
          obtain ⟨t, e2⟩ := hys.get i (sx (writtenF rows[i] x y)) (by simp [hi])
          exact ⟨t, e2, (RowOk.get (hrow _ (List.getElem_mem hi))).2.2.2.1⟩
        refine compRest_of (fun i xs news => news = (W, LCg.lst ys) :: (L + 1 + 1 + 1, oc') :: (L + 1 + 1, oc2) :: (L + 1, oc3) :: (196, tabObj ps) :: cs ∧ StrsAre xs (((piecesF rows x y way).take i).map sx)) ⟨rfl, .nil⟩ ?_ ?_
        · rintro i xs news v I oI C oC D m₂ h₇ tk₇ E' hi ⟨rfl, hxs⟩ ⟨tv, rfl⟩ hoC hm₂ F₇ N₇ hoff hne
          simp only [LCg.Off3] at hoff
          rw [show (0 : Int) + (i : Int) = (i : Int) by omega] at hm₂
          dsimp only
          obtain ⟨tx, hx1, hx2⟩ := hwk i hi
          ((repeat' (first | walk_at "use" | walk_at "cutx" | (k_unfold; try dsimp only) | ((fail_if_success (with_reducible (refine stopAt ?_ ?_; rotate_left; first | exact s1 | exact s2 | exact s3 | exact s4 | exact s5 | exact s16 | exact s6 | exact s8 | exact s11 | exact s12 | exact s25 | exact s23 | exact s24 | exact s9 | exact s10 | exact s7))); (fail_if_success (with_reducible first | show LCg.CompSrc _ _ _ _ _ _ _ _ _ _ _ _ _ _ | show LCt.CompSrcT _ _ _ _ _ _ _ _ _ _ _ _ _ _ _ | show LCp.SrcLP _ _ _ _ _ _ _ _ _ _ _ _ _ _ _ | show LCg.CompEnd _ _ _ _ _ _ _ _ _ _ _ _ _ _)); first | walk1 | (dsimp only; walk1)))); walk_at "kend")
          refine item_ N₇ (.tail _ (.tail _ (.tail _ (.head _)))) (by omega) (by rw [Int.toNat_natCast]; exact hx1) (by omega) ?_
          ((repeat' (first | walk_at "use" | walk_at "cutx" | (k_unfold; try dsimp only) | ((fail_if_success (with_reducible (refine stopAt ?_ ?_; rotate_left; first | exact s1 | exact s2 | exact s3 | exact s4 | exact s5 | exact s16 | exact s6 | exact s8 | exact s11 | exact s12 | exact s25 | exact s23 | exact s24 | exact s9 | exact s10 | exact s7))); (fail_if_success (with_reducible first | show LCg.CompSrc _ _ _ _ _ _ _ _ _ _ _ _ _ _ | show LCt.CompSrcT _ _ _ _ _ _ _ _ _ _ _ _ _ _ _ | show LCp.SrcLP _ _ _ _ _ _ _ _ _ _ _ _ _ _ _ | show LCg.CompEnd _ _ _ _ _ _ _ _ _ _ _ _ _ _)); first | walk1 | (dsimp only; walk1)))); walk_at "kend")
          refine wpAny_call (spelled_call (at_of (ws := []) X T F₇ N₇ (fun _ hq => nomatch hq)) (by show dp + 1 < 880; omega) (by show un + 3 < 8800; omega) (by omega) ?_)
          intro h₈ tk₈ u₈ K₈
          have F₈ := fr_after F₇ K₈ (by simp) (by simp)
          have N₈ := news_after N₇ K₈ (fun _ _ q => nomatch q)
          dsimp only
          ((repeat' (first | walk_at "use" | walk_at "cutx" | (k_unfold; try dsimp only) | ((fail_if_success (with_reducible (refine stopAt ?_ ?_; rotate_left; first | exact s1 | exact s2 | exact s3 | exact s4 | exact s5 | exact s16 | exact s6 | exact s8 | exact s11 | exact s12 | exact s25 | exact s23 | exact s24 | exact s9 | exact s10 | exact s7))); (fail_if_success (with_reducible first | show LCg.CompSrc _ _ _ _ _ _ _ _ _ _ _ _ _ _ | show LCt.CompSrcT _ _ _ _ _ _ _ _ _ _ _ _ _ _ _ | show LCp.SrcLP _ _ _ _ _ _ _ _ _ _ _ _ _ _ _ | show LCg.CompEnd _ _ _ _ _ _ _ _ _ _ _ _ _ _)); first | walk1 | (dsimp only; walk1)))); walk_at "kend")
          refine CompEnd.mk' F₈ N₈ hoff trivial ⟨rfl, ?_⟩
          rw [List.take_add_one, show (piecesF rows x y way)[i]? = some (spelledF ((wordsF rows x y).getD i []) (way + (i : Int))) by unfold piecesF; simp [hi], List.map_append]
          exact strs_snoc hxs
        · rintro xs news ⟨rfl, hxs⟩
          have hpl : (piecesF rows x y way).length = rows.length := by simp [piecesF]
          rw [List.take_of_length_le (by omega)] at hxs
          have hp18 : ∀ l ∈ piecesF rows x y way, l.length ≤ 18 := by
            intro l hl
            obtain ⟨k, hk, rfl⟩ := List.mem_map.mp hl
            have := (hwk k (List.mem_range.mp hk)).choose_spec.2
            have := spelledF_len ((wordsF rows x y).getD k []) (way + (k : Int))
            omega
          have hsum : ((piecesF rows x y way).map List.length).sum ≤ 18 * rows.length := by
            have := sum_le List.length 18 (piecesF rows x y way) hp18
            rwa [hpl] at this
          (try clear F₅); (try clear N₅); (try clear F₆); (try clear N₆); (try clear hr)
          ((repeat' (first | walk_at "use" | walk_at "cutx" | (k_unfold; try dsimp only) | ((fail_if_success (with_reducible (refine stopAt ?_ ?_; rotate_left; first | exact s1 | exact s2 | exact s3 | exact s4 | exact s5 | exact s16 | exact s6 | exact s8 | exact s11 | exact s12 | exact s25 | exact s23 | exact s24 | exact s9 | exact s10 | exact s7))); (fail_if_success (with_reducible first | show LCg.CompSrc _ _ _ _ _ _ _ _ _ _ _ _ _ _ | show LCt.CompSrcT _ _ _ _ _ _ _ _ _ _ _ _ _ _ _ | show LCp.SrcLP _ _ _ _ _ _ _ _ _ _ _ _ _ _ _ | show LCg.CompEnd _ _ _ _ _ _ _ _ _ _ _ _ _ _)); first | walk1 | (dsimp only; walk1)))); walk_at "kend")
          rename Fr _ _ _ _ => F₇
          rename News _ _ _ _ => N₇
          refine join_listC (ys := (piecesF rows x y way).map sx) ⟨_, (N₇ _ (.head _)).1, rfl, _, rfl⟩ hxs (by decide) ?_ ?_
          · have e : ((piecesF rows x y way).map sx).map Str.length = (piecesF rows x y way).map List.length := by
              rw [List.map_map]; exact List.map_congr_left fun l _ => by simp [Str.length]
            simp only [List.length_map]
            have e2 := congrArg List.sum e
            first | (rw [e]; omega) | (simp only [e]; omega) | omega
          intro t₈ k₈
          rw [glue_nil]
          replace N₇ : News g L _ ((W, LCg.lst ys) :: (L + 1 + 1 + 1, oc') :: (L + 1 + 1, oc2) :: (L + 1, oc3) :: (196, tabObj ps) :: cs) := fun p hp => N₇ p (.tail _ hp)
          ((repeat' (first | walk_at "use" | walk_at "cutx" | (k_unfold; try dsimp only) | ((fail_if_success (with_reducible (refine stopAt ?_ ?_; rotate_left; first | exact s1 | exact s2 | exact s3 | exact s4 | exact s5 | exact s16 | exact s6 | exact s8 | exact s11 | exact s12 | exact s25 | exact s23 | exact s24 | exact s9 | exact s10 | exact s7))); (fail_if_success (with_reducible first | show LCg.CompSrc _ _ _ _ _ _ _ _ _ _ _ _ _ _ | show LCt.CompSrcT _ _ _ _ _ _ _ _ _ _ _ _ _ _ _ | show LCp.SrcLP _ _ _ _ _ _ _ _ _ _ _ _ _ _ _ | show LCg.CompEnd _ _ _ _ _ _ _ _ _ _ _ _ _ _)); first | walk1 | (dsimp only; walk1)))); walk_at "kend")
          rename Fr _ _ _ _ => F₈
          rename News _ _ _ _ => N₈
          rename_i h₈ _ _ _ _
          have hcs196 : ∀ q ∈ cs, q.1 ≠ 196 := by
            intro q hq
            rcases hT with ⟨_, rfl⟩ | ⟨c1, c2, o1, _, rfl, _, h196⟩
            · cases hq
            · (revert q; refine fms ?_); exact h196
          refine wpAny_call (words_call (at_of (ws := (196, tabObj ps) :: cs) X T F₈ N₈ (fun q hq => .tail _ (.tail _ (.tail _ (.tail _ hq))))) hT ⟨p₂, l₂, me₂, mg₂, mb₂, Tp'⟩ (by show dp + 1 < 860; omega) (by show un + 3 < 8600; omega)
            (by rw [List.length_flatten]; omega) hlex (by unfold wordsF; rw [List.length_map]; omega) ?_)
          intro h₉ tk₉ ps' cs' D vsW nW K₉ hT' hq' eD0 eD hvW
          dsimp only at K₉ hq' eD0 eD ⊢
          have nL : ∀ {b : Addr}, h₈.get? b = none → b ≠ L ∧ g.get? b = none := fun {b} e => by
            refine ⟨fun q => ?_, ?_⟩
            · obtain ⟨o, _, _, e2, _⟩ := F₈.ns
              rw [q, e2] at e; cases e
            · cases e2 : g.get? b with
              | none => rfl
              | some o => rw [F₈.keep _ _ e2] at e; cases e
          have w196 := N₈ _ (.tail _ (.tail _ (.tail _ (.tail _ (.head _)))))
          have F₉ := fr_after F₈ K₉ (by rw [List.mem_singleton]; exact fun e => w196.2.1 e.symm) (by intro a ha; rw [List.mem_singleton.mp ha]; exact w196.2.2)
          have hLobj : ∀ q ∈ cs', q.1 ≠ L := by
            intro q hq e
            rcases hT' with ⟨_, rfl⟩ | ⟨c1, c2, o1, _, rfl, ⟨vr, tr, hr1, _⟩, _⟩
            · cases hq
            · obtain ⟨o, es, ep, e2, e3, _⟩ := F₉.ns
              have h1 := (hq' q (.tail _ hq)).1
              rw [e, e2] at h1
              rw [List.mem_singleton.mp hq] at h1
              cases h1
              rw [hr1] at e3; cases e3
          obtain ⟨rest, hrest⟩ : ∃ rest, rest = (196, tabObj ps') :: (cs' ++ cs) := ⟨_, rfl⟩
          have N₉ : News g L h₉ ((D, listOf vsW.toArray nW) :: (W, LCg.lst ys) :: (L + 1 + 1 + 1, oc') :: (L + 1 + 1, oc2) :: (L + 1, oc3) :: rest) := by
            intro q hq
            have old : ∀ q ∈ (W, LCg.lst ys) :: (L + 1 + 1 + 1, oc') :: (L + 1 + 1, oc2) :: (L + 1, oc3) :: (196, tabObj ps) :: cs, q.1 ≠ 196 → h₉.get? q.1 = some q.2 ∧ q.1 ≠ L ∧ g.get? q.1 = none := fun q hq hn => ⟨K₉ _ _ (by rw [List.mem_singleton]; exact hn) (N₈ q hq).1, (N₈ q hq).2⟩
            rcases List.mem_cons.mp hq with rfl | hq
            · exact ⟨eD, nL eD0⟩
            · rcases List.mem_cons.mp hq with rfl | hq
              · exact old _ (.head _) (Ne.symm hWne)
              · rcases List.mem_cons.mp hq with rfl | hq
                · exact old _ (.tail _ (.head _)) (Nat.ne_of_gt (Nat.lt_succ_of_lt (Nat.lt_succ_of_lt (Nat.lt_succ_of_lt h196L))))
                · rcases List.mem_cons.mp hq with rfl | hq
                  · exact old _ (.tail _ (.tail _ (.head _))) (Nat.ne_of_gt (Nat.lt_succ_of_lt (Nat.lt_succ_of_lt h196L)))
                  · rcases List.mem_cons.mp hq with rfl | hq
                    · exact old _ (.tail _ (.tail _ (.tail _ (.head _)))) (Nat.ne_of_gt (Nat.lt_succ_of_lt h196L))
                    · rw [hrest] at hq
                      rcases List.mem_cons.mp hq with rfl | hq
                      · exact ⟨(hq' _ (.head _)).1, w196.2⟩
                      · rcases List.mem_append.mp hq with hq | hq
                        · exact ⟨(hq' _ (.tail _ hq)).1, hLobj q hq, (hq' _ (.tail _ hq)).2⟩
                        · exact old _ (.tail _ (.tail _ (.tail _ (.tail _ (.tail _ hq))))) (hcs196 q hq)
          clear F₈ N₈
          ((repeat' (first | walk_at "use" | walk_at "cutx" | (k_unfold; try dsimp only) | ((fail_if_success (with_reducible (refine stopAt ?_ ?_; rotate_left; first | exact s1 | exact s2 | exact s3 | exact s4 | exact s5 | exact s16 | exact s6 | exact s8 | exact s11 | exact s12 | exact s25 | exact s23 | exact s24 | exact s9 | exact s10 | exact s7))); (fail_if_success (with_reducible first | show LCg.CompSrc _ _ _ _ _ _ _ _ _ _ _ _ _ _ | show LCt.CompSrcT _ _ _ _ _ _ _ _ _ _ _ _ _ _ _ | show LCp.SrcLP _ _ _ _ _ _ _ _ _ _ _ _ _ _ _ | show LCg.CompEnd _ _ _ _ _ _ _ _ _ _ _ _ _ _)); first | walk1 | (dsimp only; walk1)))); walk_at "kend")
          rename Fr _ _ _ _ => F₁₀
          rename News _ _ _ _ => N₁₀
          refine eq_strsL (News.isList N₁₀ (.head _)) (News.isList N₁₀ (.tail _ (.head _))) hvW hys (by k_units) ?_
          have hwe : (wordsF rows x y).map sx = rows.map fun r => sx (writtenF r x y) := by unfold wordsF; rw [List.map_map]; rfl
          rw [hwe, decide_eq_true rfl]
          rw [hwe] at hvW
          have hvWl : vsW.length = rows.length := by rw [hvW.length, List.length_map]
          ((repeat' (first | walk_at "use" | walk_at "cutx" | (k_unfold; try dsimp only) | ((fail_if_success (with_reducible (refine stopAt ?_ ?_; rotate_left; first | exact s1 | exact s2 | exact s3 | exact s4 | exact s5 | exact s16 | exact s6 | exact s8 | exact s11 | exact s12 | exact s25 | exact s23 | exact s24 | exact s9 | exact s10 | exact s7))); (fail_if_success (with_reducible first | show LCg.CompSrc _ _ _ _ _ _ _ _ _ _ _ _ _ _ | show LCt.CompSrcT _ _ _ _ _ _ _ _ _ _ _ _ _ _ _ | show LCp.SrcLP _ _ _ _ _ _ _ _ _ _ _ _ _ _ _ | show LCg.CompEnd _ _ _ _ _ _ _ _ _ _ _ _ _ _)); first | walk1 | (dsimp only; walk1)))); walk_at "kend")
          refine LCg.ListComp_U (F₀ := F₁₀) (by rfl) (by decide) (by rfl) (by decide) (by rfl) ?_
          ((repeat' (first | walk_at "use" | walk_at "cutx" | (k_unfold; try dsimp only) | ((fail_if_success (with_reducible (refine stopAt ?_ ?_; rotate_left; first | exact s1 | exact s2 | exact s3 | exact s4 | exact s5 | exact s16 | exact s6 | exact s8 | exact s11 | exact s12 | exact s25 | exact s23 | exact s24 | exact s9 | exact s10 | exact s7))); (fail_if_success (with_reducible first | show LCg.CompSrc _ _ _ _ _ _ _ _ _ _ _ _ _ _ | show LCt.CompSrcT _ _ _ _ _ _ _ _ _ _ _ _ _ _ _ | show LCp.SrcLP _ _ _ _ _ _ _ _ _ _ _ _ _ _ _ | show LCg.CompEnd _ _ _ _ _ _ _ _ _ _ _ _ _ _)); first | walk1 | (dsimp only; walk1)))); walk_at "kend")
          refine LCg.CompSrc.ledger rfl F₁₀ N₁₀ (.head _) (by rw [List.size_toArray, sizeLine_eq]; omega) ?_
          intro g₅
          refine compRest_of (fun i zs news => news = (D, listOf vsW.toArray nW) :: (W, LCg.lst ys) :: (L + 1 + 1 + 1, oc') :: (L + 1 + 1, oc2) :: (L + 1, oc3) :: rest ∧ BytesAre zs (rows.take i)) ⟨rfl, .nil⟩ ?_ ?_
          · rintro i zs news v I oI C oC D₂ m₂ h₁₁ tk₁₁ E' hi ⟨rfl, hzs⟩ hvi hoC hm₂ F₁₁ N₁₁ hoff hne
            have hi' : i < rows.length := by rw [List.size_toArray] at hi; omega
            have hri : rows[i]? = some rows[i] := by simp
            obtain ⟨k1, k2, k3, k4, k5, k6⟩ := RowOk.get (hrow _ (List.getElem_mem hi'))
            obtain ⟨t, e⟩ := hvW.get i (sx (writtenF rows[i] x y)) (by rw [List.getElem?_map, hri]; rfl)
            have : v = .str (sx (writtenF rows[i] x y)) t := by
              have hvi : vsW[i]? = some v := by simpa using hvi
              rw [e] at hvi; exact (Option.some.inj hvi).symm
            subst this
            simp only [LCg.Off3] at hoff
            dsimp only
            ((repeat' (first | walk_at "use" | walk_at "cutx" | (k_unfold; try dsimp only) | ((fail_if_success (with_reducible (refine stopAt ?_ ?_; rotate_left; first | exact s1 | exact s2 | exact s3 | exact s4 | exact s5 | exact s16 | exact s6 | exact s8 | exact s11 | exact s12 | exact s25 | exact s23 | exact s24 | exact s9 | exact s10 | exact s7))); (fail_if_success (with_reducible first | show LCg.CompSrc _ _ _ _ _ _ _ _ _ _ _ _ _ _ | show LCt.CompSrcT _ _ _ _ _ _ _ _ _ _ _ _ _ _ _ | show LCp.SrcLP _ _ _ _ _ _ _ _ _ _ _ _ _ _ _ | show LCg.CompEnd _ _ _ _ _ _ _ _ _ _ _ _ _ _)); first | walk1 | (dsimp only; walk1)))); walk_at "kend")
            refine wpAny_call (octets_call (at_of (ws := []) X T F₁₁ N₁₁ (fun _ hq => nomatch hq)) (by show dp + 1 < 880; omega) (by show un + 3 < 8800; omega) (by omega) k3 ?_)
            intro h₁₂ tk₁₂ u₁₂ K₁₂
            have F₁₂ := fr_after F₁₁ K₁₂ (by simp) (by simp)
            have N₁₂ := news_after N₁₁ K₁₂ (fun _ _ q => nomatch q)
            clear F₁₁ N₁₁
            dsimp only
            ((repeat' (first | walk_at "use" | walk_at "cutx" | (k_unfold; try dsimp only) | ((fail_if_success (with_reducible (refine stopAt ?_ ?_; rotate_left; first | exact s1 | exact s2 | exact s3 | exact s4 | exact s5 | exact s16 | exact s6 | exact s8 | exact s11 | exact s12 | exact s25 | exact s23 | exact s24 | exact s9 | exact s10 | exact s7))); (fail_if_success (with_reducible first | show LCg.CompSrc _ _ _ _ _ _ _ _ _ _ _ _ _ _ | show LCt.CompSrcT _ _ _ _ _ _ _ _ _ _ _ _ _ _ _ | show LCp.SrcLP _ _ _ _ _ _ _ _ _ _ _ _ _ _ _ | show LCg.CompEnd _ _ _ _ _ _ _ _ _ _ _ _ _ _)); first | walk1 | (dsimp only; walk1)))); walk_at "kend")
            refine wpAny_call (b64dec_call (at_of (ws := []) X T F₁₂ N₁₂ (fun _ hq => nomatch hq)) (by show dp + 1 < 880; omega) (by show un + 3 < 8800; omega) (by unfold octF; rw [List.length_map]; omega) k5 ?_)
            intro h₁₃ tk₁₃ u₁₃ K₁₃
            have F₁₃ := fr_after F₁₂ K₁₃ (by simp) (by simp)
            have N₁₃ := news_after N₁₂ K₁₃ (fun _ _ q => nomatch q)
            dsimp only
            ((repeat' (first | walk_at "use" | walk_at "cutx" | (k_unfold; try dsimp only) | ((fail_if_success (with_reducible (refine stopAt ?_ ?_; rotate_left; first | exact s1 | exact s2 | exact s3 | exact s4 | exact s5 | exact s16 | exact s6 | exact s8 | exact s11 | exact s12 | exact s25 | exact s23 | exact s24 | exact s9 | exact s10 | exact s7))); (fail_if_success (with_reducible first | show LCg.CompSrc _ _ _ _ _ _ _ _ _ _ _ _ _ _ | show LCt.CompSrcT _ _ _ _ _ _ _ _ _ _ _ _ _ _ _ | show LCp.SrcLP _ _ _ _ _ _ _ _ _ _ _ _ _ _ _ | show LCg.CompEnd _ _ _ _ _ _ _ _ _ _ _ _ _ _)); first | walk1 | (dsimp only; walk1)))); walk_at "kend")
            refine CompEnd.mk' F₁₃ N₁₃ hoff (.inr ⟨_, .head _, rfl, _, rfl⟩) ⟨rfl, ?_⟩
            rw [List.take_add_one, hri, k6]
            exact hzs.snoc _ _
          · rintro zs news ⟨rfl, hzs⟩
            rw [List.size_toArray, List.take_of_length_le (by omega)] at hzs
            ((repeat' (first | walk_at "use" | walk_at "cutx" | (k_unfold; try dsimp only) | ((fail_if_success (with_reducible (refine stopAt ?_ ?_; rotate_left; first | exact s1 | exact s2 | exact s3 | exact s4 | exact s5 | exact s16 | exact s6 | exact s8 | exact s11 | exact s12 | exact s25 | exact s23 | exact s24 | exact s9 | exact s10 | exact s7))); (fail_if_success (with_reducible first | show LCg.CompSrc _ _ _ _ _ _ _ _ _ _ _ _ _ _ | show LCt.CompSrcT _ _ _ _ _ _ _ _ _ _ _ _ _ _ _ | show LCp.SrcLP _ _ _ _ _ _ _ _ _ _ _ _ _ _ _ | show LCg.CompEnd _ _ _ _ _ _ _ _ _ _ _ _ _ _)); first | walk1 | (dsimp only; walk1)))); walk_at "kend")
            rename Fr _ _ _ _ => F₁₁
            rename News _ _ _ _ => N₁₁
            rename (_ ≠ _) ∧ _ => hoR
            rename_i Dr h₁₁ tk₁₁
            have hgk : ∀ b o, h₀.get? b = some o → g.get? b = some o := fun b o e => hg ▸ hideAll_get _ (H.keep b o e) fun q => by
              obtain ⟨r, hr, rfl⟩ := List.mem_map.mp q
              rw [(H.ws r hr).2] at e; cases e
            have hnone : ∀ b, g.get? b = none → h₀.get? b = none := fun b e => by
              cases e2 : h₀.get? b with
              | none => rfl
              | some o => rw [hgk b o e2] at e; cases e
            have mrest : ∀ {q : Addr × Obj}, q ∈ rest → q ∈ (Dr, LCg.lst zs) :: (D, listOf vsW.toArray nW) :: (W, LCg.lst ys) :: (L + 1 + 1 + 1, oc') :: (L + 1 + 1, oc2) :: (L + 1, oc3) :: rest := fun hq => .tail _ (.tail _ (.tail _ (.tail _ (.tail _ (.tail _ hq)))))
            have hnr := off1_mem hoR.2.2.2.2.2
            rw [hrest] at mrest hnr
            refine h h₁₁ _ ps' cs' Dr zs zs.length (keep_of hg F₁₁ N₁₁ (fun p hp hn => ?_) (fun p hp => (H.ws p hp).1)) hT' (fun q hq => ?_) ?_ (N₁₁ _ (.head _)).1 hzs
            · rcases List.mem_cons.mp hp with rfl | hp
              · exact absurd (.head _) hn
              · rw [hrest]; exact mrest (.tail _ (List.mem_append_right _ hp))
            · have hm : q ∈ (196, tabObj ps') :: (cs' ++ cs) := by
                (revert q; refine fmc ?_ fun q hq => ?_)
                · exact .head _
                · exact .tail _ (List.mem_append_left _ hq)
              have z := N₁₁ q (by rw [hrest]; exact mrest hm)
              exact ⟨z.1, hnone _ z.2.2⟩
            · cases e : s.heap.get? Dr with
              | none => rfl
              | some o =>
                have h1 := (N₁₁ _ (.head _)).2.2
                rw [hg, hideAll_get _ e (fun q => ?_)] at h1
                · exact h1
                · obtain ⟨r, hr, e3⟩ := List.mem_map.mp q
                  rcases List.mem_cons.mp hr with rfl | hr
                  · exact hnr _ (.head _) e3
                  · exact hnr _ (.tail _ (List.mem_append_right _ hr)) e3
end Mine
end

section
set_option linter.unusedVariables false
namespace Mine
/-- a word that the lexer gives back -/
noncomputable def wordOk (w : List Nat) : Bool := !w.isEmpty && w.all fun c => c != 9 && c != 13
theorem wordOk.get {w : List Nat} (h : wordOk w = true) : w ≠ [] ∧ ∀ c ∈ w, c ≠ 9 ∧ c ≠ 13 := by
  unfold wordOk at h
  simp only [Bool.and_eq_true, Bool.not_eq_true', List.all_eq_true, bne_iff_ne] at h
  exact ⟨fun e => by rw [e] at h; simp at h, h.2⟩
theorem tokA_esc (rest : List Nat) : ∀ (w acc : List Nat), tokA (esc [34, 92] w ++ 34 :: rest) acc = some (acc ++ w, rest)
  | [], acc => by
    show tokA (34 :: rest) acc = _
    rw [tokA.eq_def]
    simp
  | c :: w, acc => by
    have ih := tokA_esc rest w
    unfold esc at ih ⊢
    rw [List.flatMap_cons, List.append_assoc]
    unfold esc1 at ih ⊢
    by_cases h : c ∈ [34, 92]
    · rw [if_pos h]
      simp only [List.cons_append, List.nil_append]
      rw [tokA.eq_def]
      simp only [show ¬ (92 : Nat) = 34 by decide, if_false, if_true]
      rw [ih, List.append_assoc]; rfl
    · rw [if_neg h]
      simp only [List.mem_cons, List.not_mem_nil, or_false, not_or] at h
      simp only [List.cons_append, List.nil_append]
      rw [tokA.eq_def]
      simp only [h.1, h.2, if_false]
      rw [ih, List.append_assoc]; rfl
theorem tokB_esc {s : Nat} (rest : List Nat) (hs : s ∈ wsSet) : ∀ (w acc : List Nat), (∀ c ∈ w, c ≠ 9 ∧ c ≠ 13) → tokB (esc [34, 92, 32, 10] w ++ s :: rest) acc = some (acc ++ w, rest)
  | [], acc, _ => by
    show tokB (s :: rest) acc = _
    rw [tokB.eq_def]
    simp [hs]
  | c :: w, acc, hw => by
    have ih := fun acc => tokB_esc rest hs w acc fun c hc => hw c (.tail _ hc)
    have hc := hw c (.head _)
    unfold esc at ih ⊢
    rw [List.flatMap_cons, List.append_assoc]
    unfold esc1 at ih ⊢
    by_cases h : c ∈ [34, 92, 32, 10]
    · rw [if_pos h]
      simp only [List.cons_append, List.nil_append]
      rw [tokB.eq_def]
      simp only [show (92 : Nat) ∉ wsSet by decide, if_false, if_true]
      rw [ih, List.append_assoc]; rfl
    · rw [if_neg h]
      simp only [List.mem_cons, List.not_mem_nil, or_false, not_or] at h
      simp only [List.cons_append, List.nil_append]
      have hn : c ∉ wsSet := by
        unfold wsSet
        simp only [List.mem_cons, List.not_mem_nil, or_false, not_or]
        exact ⟨h.2.2.2, hc.1, hc.2, h.2.2.1⟩
      rw [tokB.eq_def]
      simp only [hn, h.2.1, if_false]
      rw [ih, List.append_assoc]; rfl
/-- what a word's end leaves over -/
theorem tok_spelled {w : List Nat} (hw : wordOk w = true) (way : Int) (rest : List Nat) : ∃ pad, (∀ c ∈ pad, c ∈ wsSet) ∧ tokO (spelledF w way ++ rest) = some (w, pad ++ rest) := by
  obtain ⟨hne, hc⟩ := wordOk.get hw
  unfold spelledF
  split
  · refine ⟨[], (fun _ q => nomatch q), ?_⟩
    rw [List.append_assoc, List.append_assoc]
    show tokO (34 :: (esc [34, 92] w ++ 34 :: rest)) = _
    rw [tokO.eq_def]
    simp only [show (34 : Nat) ∉ wsSet by decide, if_false, if_true]
    rw [tokA_esc]; rfl
  · obtain ⟨s, pad, es, hs, hp⟩ : ∃ s pad, sepOf ((way.fdiv 2).fmod 4) = s :: pad ∧ s ∈ wsSet ∧ ∀ c ∈ pad, c ∈ wsSet := by
      unfold sepOf
      split
      · exact ⟨32, [], rfl, by decide, by decide⟩
      · split
        · exact ⟨10, [], rfl, by decide, by decide⟩
        · split
          · exact ⟨9, [32], rfl, by decide, by decide⟩
          · exact ⟨13, [10], rfl, by decide, by decide⟩
    refine ⟨pad, hp, ?_⟩
    rw [es, List.append_assoc]
    cases w with
    | nil => exact absurd rfl hne
    | cons c w =>
      have hc0 := hc c (.head _)
      have ht := fun acc => tokB_esc (pad ++ rest) hs w acc fun c h => hc c (.tail _ h)
      show tokO (esc [34, 92, 32, 10] (c :: w) ++ s :: (pad ++ rest)) = _
      unfold esc at ht ⊢
      rw [List.flatMap_cons, List.append_assoc]
      unfold esc1 at ht ⊢
      by_cases h : c ∈ [34, 92, 32, 10]
      · rw [if_pos h]
        simp only [List.cons_append, List.nil_append]
        rw [tokO.eq_def]
        simp only [show (92 : Nat) ∉ wsSet by decide, show ¬ (92 : Nat) = 34 by decide, if_false, if_true]
        rw [ht]; rfl
      · rw [if_neg h]
        simp only [List.mem_cons, List.not_mem_nil, or_false, not_or] at h
        have hn : c ∉ wsSet := by
          unfold wsSet
          simp only [List.mem_cons, List.not_mem_nil, or_false, not_or]
          exact ⟨h.2.2.2, hc0.1, hc0.2, h.2.2.1⟩
        simp only [List.cons_append, List.nil_append]
        rw [tokO.eq_def]
        simp only [hn, h.1, h.2.1, if_false]
        rw [ht]; rfl
theorem Lexes.skip : ∀ {pad : List Nat} {ws : List (List Nat)} {l : List Nat}, (∀ c ∈ pad, c ∈ wsSet) → Lexes ws l → Lexes ws (pad ++ l)
  | [], _, _, _, h => h
  | c :: pad, ws, l, hp, h => by
    have ih := Lexes.skip (pad := pad) (fun c hc => hp c (.tail _ hc)) h
    have e : tokO (c :: (pad ++ l)) = tokO (pad ++ l) := by
      rw [tokO.eq_def]
      simp [hp c (.head _)]
    show Lexes ws (c :: (pad ++ l))
    cases ih with
    | nil q => exact .nil (e.trans q)
    | cons q hn hx => exact .cons (e.trans q) hn hx
theorem lexes_all : ∀ (l : List (List Nat × Int)), (∀ p ∈ l, wordOk p.1 = true) → Lexes (l.map (·.1)) ((l.map fun p => spelledF p.1 p.2).flatten)
  | [], _ => .nil (rest := []) rfl
  | p :: l, h => by
    have ih := lexes_all l fun q hq => h q (.tail _ hq)
    have hp := h p (.head _)
    rw [List.map_cons, List.map_cons, List.flatten_cons]
    obtain ⟨pad, h1, h2⟩ := tok_spelled hp p.2 ((l.map fun p => spelledF p.1 p.2).flatten)
    exact .cons h2 (wordOk.get hp).1 (ih.skip h1)
theorem lexes_rows {rows : List (List UInt8)} {x y : UInt8} {way : Int} (h : ∀ r ∈ rows, wordOk (writtenF r x y) = true) : Lexes (wordsF rows x y) (piecesF rows x y way).flatten := by
  have hl : (wordsF rows x y).length = rows.length := by simp [wordsF]
  have := lexes_all ((List.range rows.length).map fun (k : Nat) => ((wordsF rows x y).getD k [], way + (k : Int))) fun p hp => by
    obtain ⟨k, hk, rfl⟩ := List.mem_map.mp hp
    have hk := List.mem_range.mp hk
    dsimp only
    have e : (wordsF rows x y).getD k [] = writtenF rows[k] x y := by
      unfold wordsF; rw [List.getD_eq_getElem?_getD, List.getElem?_map, List.getElem?_eq_getElem hk]; rfl
    rw [e]
    exact h _ (List.getElem_mem _)
  rw [List.map_map, List.map_map] at this
  have e : (List.range rows.length).map ((·.1) ∘ fun (k : Nat) => ((wordsF rows x y).getD k [], way + (k : Int))) = wordsF rows x y := by
    apply List.ext_getElem
    · simp [hl]
    · intro i h1 h2
      simp only [List.getElem_map, List.getElem_range, Function.comp]
      rw [List.getD_eq_getElem?_getD, List.getElem?_eq_getElem h2]
      rfl
  rw [e] at this
  exact this
end Mine
end

section
set_option linter.unusedVariables false
namespace Mine
noncomputable def letters : List UInt8 := [190, 251, 255]
noncomputable def words39 : List (List UInt8) := letters.map (fun a => [a]) ++ (letters.flatMap fun a => letters.map fun b => [a, b]) ++ (letters.flatMap fun a => letters.flatMap fun b => letters.map fun c => [a, b, c])
noncomputable def rows79 : List (List UInt8) := [251, 190, 251, 190] :: (words39 ++ words39.map fun w => w ++ w)
noncomputable def fin1 (row : List UInt8) : Bool :=
  decide (row ≠ [] ∧ row.length ≤ 6) && (!(rootF row).isEmpty && (decide (1 ≤ row.length / perF row ∧ row.length / perF row ≤ 6) && ((List.range (rootF row).length).any (fun j => row == (List.replicate (row.length / perF row) (rot (rootF row) j)).flatten) &&
    ((List.range (rootF row).length).all (fun j => j == 0 || blt (rootF row) (rot (rootF row) j)) && (List.range (rootF row).length).all (fun j => words39.contains (rot (rootF row) j))))))
noncomputable def fin2 (x y : UInt8) (row : List UInt8) : Bool := RowOk x y row && wordOk (writtenF row x y)
theorem fin1_all : rows79.all fin1 = true := by decide +kernel
theorem fin2_0 : rows79.all (fin2 43 47) = true := by decide +kernel
theorem fin2_1 : rows79.all (fin2 34 32) = true := by decide +kernel
theorem fin2_2 : rows79.all (fin2 92 34) = true := by decide +kernel
theorem fin2_3 : rows79.all (fin2 10 92) = true := by decide +kernel
theorem fin2_4 : rows79.all (fin2 32 10) = true := by decide +kernel
theorem fin2_5 : rows79.all (fin2 45 95) = true := by decide +kernel
theorem fin2_alt (total : Int) : rows79.all (fin2 (altF total).1 (altF total).2) = true := by
  have hk := Int.fmod_nonneg_of_pos total (show (0 : Int) < 6 by decide)
  have hk' := Int.fmod_lt_of_pos total (show (0 : Int) < 6 by decide)
  unfold altF
  generalize total.fmod 6 = kk at hk hk' ⊢
  rcases (show kk = 0 ∨ kk = 1 ∨ kk = 2 ∨ kk = 3 ∨ kk = 4 ∨ kk = 5 by omega) with e | e | e | e | e | e <;> subst e
  · exact fin2_0
  · exact fin2_1
  · exact fin2_2
  · exact fin2_3
  · exact fin2_4
  · exact fin2_5
theorem fin1_get {row : List UInt8} (hr : row ∈ rows79) : (row ≠ [] ∧ row.length ≤ 6) ∧ RowGood row ∧ ∀ j, j < (rootF row).length → rot (rootF row) j ∈ rows79 := by
  have h := List.all_eq_true.mp fin1_all row hr
  unfold fin1 at h
  simp only [Bool.and_eq_true, decide_eq_true_eq, Bool.not_eq_true', List.any_eq_true, List.all_eq_true, List.mem_range, beq_iff_eq, Bool.or_eq_true, List.contains_iff_mem] at h
  obtain ⟨h1, h2, h3, ⟨j, hj, h4⟩, h5, h6⟩ := h
  refine ⟨h1, ⟨fun e => by rw [e] at h2; simp at h2, h3, ⟨j, hj, h4⟩, fun j h0 hj => ?_⟩, fun j hj => .tail _ (List.mem_append_left _ (h6 j hj))⟩
  rcases h5 j hj with e | e
  · omega
  · exact e
noncomputable def wordN (n : Int) : List UInt8 := (rootI n).map fun i => i.toNat.toUInt8
theorem digit_in (n : Int) (j : Nat) : (digitF n j).toNat.toUInt8 ∈ letters := by
  have hk := Int.fmod_nonneg_of_pos ((n.fdiv 6).fdiv (3 ^ j)) (show (0 : Int) < 3 by decide)
  have hk' := Int.fmod_lt_of_pos ((n.fdiv 6).fdiv (3 ^ j)) (show (0 : Int) < 3 by decide)
  unfold digitF
  generalize ((n.fdiv 6).fdiv (3 ^ j)).fmod 3 = kk at hk hk' ⊢
  rcases (show kk = 0 ∨ kk = 1 ∨ kk = 2 by omega) with e | e | e <;> subst e <;> decide
theorem wordN_mem (n : Int) : wordN n ∈ words39 := by
  have hd0 := Int.fmod_nonneg_of_pos (n.fdiv 2) (show (0 : Int) < 3 by decide)
  have hd1 := Int.fmod_lt_of_pos (n.fdiv 2) (show (0 : Int) < 3 by decide)
  unfold wordN rootI words39
  rw [List.map_map]
  have d := digit_in n
  generalize hg : ((fun i : Int => i.toNat.toUInt8) ∘ digitF n) = g
  have dg : ∀ j, g j ∈ letters := fun j => by rw [← hg]; exact d j
  rcases (show (n.fdiv 2).fmod 3 = 0 ∨ (n.fdiv 2).fmod 3 = 1 ∨ (n.fdiv 2).fmod 3 = 2 by omega) with e | e | e <;> rw [e]
  · exact List.mem_append_left _ (List.mem_append_left _ (List.mem_map.mpr ⟨g 0, dg 0, rfl⟩))
  · exact List.mem_append_left _ (List.mem_append_right _ (List.mem_flatMap.mpr ⟨g 0, dg 0, List.mem_map.mpr ⟨g 1, dg 1, rfl⟩⟩))
  · exact List.mem_append_right _ (List.mem_flatMap.mpr ⟨g 0, dg 0, List.mem_flatMap.mpr ⟨g 1, dg 1, List.mem_map.mpr ⟨g 2, dg 2, rfl⟩⟩⟩)
theorem rowN_mem (n : Int) : rowN n ∈ rows79 := by
  have h0 := Int.fmod_nonneg_of_pos n (show (0 : Int) < 2 by decide)
  have h1 := Int.fmod_lt_of_pos n (show (0 : Int) < 2 by decide)
  refine .tail _ ?_
  unfold rowN
  rcases (show n.fmod 2 = 0 ∨ n.fmod 2 = 1 by omega) with e | e <;> rw [e]
  · refine List.mem_append_left _ ?_
    have : ((List.replicate ((1 : Int) + 0).toNat (rootI n)).flatten).map (fun i => i.toNat.toUInt8) = wordN n := by
      show ((List.replicate 1 (rootI n)).flatten).map _ = _
      simp [wordN, List.replicate_succ]
    rw [this]
    exact wordN_mem n
  · refine List.mem_append_right _ (List.mem_map.mpr ⟨wordN n, wordN_mem n, ?_⟩)
    show _ = ((List.replicate 2 (rootI n)).flatten).map _
    simp [wordN, List.replicate_succ]
theorem bag_mem {ns : List Int} : ∀ r ∈ bagF ns, r ∈ rows79 := by
  intro r hr
  rcases List.mem_cons.mp hr with rfl | hr
  · exact .head _
  · obtain ⟨n, _, rfl⟩ := List.mem_map.mp hr
    exact rowN_mem n
theorem told_le : ∀ {bag : List (List UInt8)}, (∀ r ∈ bag, RowGood r) → (toldL bag).length ≤ 6 * bag.length
  | [], _ => Nat.le_refl _
  | r :: bag, h => by
    have := told_le (bag := bag) fun q hq => h q (.tail _ hq)
    have := (h r (.head _)).m.2
    unfold toldL at *
    rw [List.flatMap_cons, List.length_append, List.length_replicate, List.length_cons]
    omega
theorem size_le : ∀ {bag : List (List UInt8)}, (∀ r ∈ bag, r.length ≤ 6) → sizeF bag ≤ 6 * bag.length
  | [], _ => Nat.le_refl _
  | r :: bag, h => by
    have := size_le (bag := bag) fun q hq => h q (.tail _ hq)
    have := h r (.head _)
    unfold sizeF at *
    rw [List.map_cons, List.sum_cons, List.length_cons]
    omega
/-- what the law needs of its bag, with no program in sight -/
structure PlainOk (x y : UInt8) (total : Int) (bag : List (List UInt8)) : Prop where
  rows : ∀ r ∈ bag, RowOk x y r = true
  lex : Lexes (wordsF bag x y) (piecesF bag x y (total.fdiv 6)).flatten
  size : sizeF bag ≤ 22
  keys : (allKeys bag (sizeF bag)).length = sizeF bag
  ne : ∀ r ∈ bag, r ≠ [] ∧ r.length ≤ 6
  told : 2 ≤ (toldL bag).length ∧ (toldL bag).length < 64
  col : (columnF bag (sizeF bag)).length = sizeF bag ∧ ∀ c ∈ columnF bag (sizeF bag), 0 ≤ c ∧ c < 256
  rings : ∀ T, T.Perm (toldL bag) → (T.map fun r => (cut r (sizeF bag), r)).Pairwise (fun a b => plt b a = false) → ringsF (columnF bag (sizeF bag)) = T
  ringOk : ∀ r ∈ ringsF (columnF bag (sizeF bag)), r ≠ [] ∧ r.length ≤ 6
  ringN : (ringsF (columnF bag (sizeF bag))).length ≤ 64
  tRows : ∀ r ∈ turnedF total (ringsF (columnF bag (sizeF bag))), RowOk x y r = true
  tLex : Lexes (wordsF (turnedF total (ringsF (columnF bag (sizeF bag)))) x y) (piecesF (turnedF total (ringsF (columnF bag (sizeF bag)))) x y (total.fdiv 3)).flatten
  tNe : ∀ r ∈ turnedF total (ringsF (columnF bag (sizeF bag))), r ≠ [] ∧ r.length ≤ 6
  tKeys : (allKeys (turnedF total (ringsF (columnF bag (sizeF bag)))) (sizeF bag)).length = sizeF bag
  tCol : columnF (turnedF total (ringsF (columnF bag (sizeF bag)))) (sizeF bag) = columnF bag (sizeF bag)
theorem plain_ok (ns : List Int) (hn : ns.length ≤ 3) : PlainOk (altF ns.sum).1 (altF ns.sum).2 ns.sum (bagF ns) := by
  have f2 : ∀ r ∈ rows79, fin2 (altF ns.sum).1 (altF ns.sum).2 r = true := List.all_eq_true.mp (fin2_alt ns.sum)
  generalize (altF ns.sum).1 = x at f2 ⊢
  generalize (altF ns.sum).2 = y at f2 ⊢
  generalize ns.sum = total
  have hm := bag_mem (ns := ns)
  have hl : (bagF ns).length ≤ 4 := by unfold bagF; rw [List.length_cons, List.length_map]; omega
  have hsz : sizeF (bagF ns) ≤ 22 := by
    unfold bagF
    have := size_le (bag := ns.map rowN) fun r hr => by
      obtain ⟨n, _, rfl⟩ := List.mem_map.mp hr
      exact (fin1_get (rowN_mem n)).1.2
    rw [List.length_map] at this
    show 4 + sizeF (ns.map rowN) ≤ 22
    omega
  have ht2 : 2 ≤ (toldL (bagF ns)).length := by
    unfold bagF toldL
    rw [List.flatMap_cons, List.length_append]
    have : (List.replicate (([251, 190, 251, 190] : List UInt8).length / perF [251, 190, 251, 190]) (rootF [251, 190, 251, 190])).length = 2 := by decide +kernel
    omega
  generalize bagF ns = bag at hm hl hsz ht2 ⊢
  have hok : ∀ {r}, r ∈ rows79 → RowOk x y r = true ∧ wordOk (writtenF r x y) = true := fun {r} hr => by
    have := f2 r hr
    unfold fin2 at this
    simpa only [Bool.and_eq_true] using this
  have hg : ∀ r ∈ bag, RowGood r := fun r hr => (fin1_get (hm r hr)).2.1
  have hk := keys_len bag (sizeF bag)
  have htl := told_le hg
  have hrings : ∀ T, T.Perm (toldL bag) → (T.map fun r => (cut r (sizeF bag), r)).Pairwise (fun a b => plt b a = false) → ringsF (columnF bag (sizeF bag)) = T := fun T hT hs => by
    obtain ⟨H, hp⟩ := rings_ok hg hT hs
    rw [← col_perm hp hk]
    exact rings_are H
  obtain ⟨T, hT, hs⟩ := sorted_told bag (sizeF bag)
  obtain ⟨H, hp⟩ := rings_ok hg hT hs
  have hE := hrings T hT hs
  have hroot : ∀ u ∈ T, u ≠ [] ∧ ∀ j, j < u.length → rot u j ∈ rows79 := fun u hu => by
    obtain ⟨row, hr, hq⟩ := List.mem_flatMap.mp (hT.mem_iff.mp hu)
    have e := List.eq_of_mem_replicate hq
    have g := fin1_get (hm row hr)
    rw [e]
    exact ⟨g.2.1.ne, g.2.2⟩
  have hTne : ∀ u ∈ T, u ≠ [] := fun u hu => (hroot u hu).1
  have htm : ∀ r ∈ turnedF total T, r ∈ rows79 := fun r hr => by
    obtain ⟨u, hu, j, hj, e⟩ := turned_mem hTne hr
    rw [e]; exact (hroot u hu).2 j hj
  have hu0 : ∀ u ∈ T, u ∈ rows79 := fun u hu => by
    have := (hroot u hu).2 0 (List.length_pos_iff.mpr (hTne u hu))
    unfold rot at this
    simpa using this
  have htk := (turned_keys (total := total) (N := sizeF bag) hTne).trans hp
  refine ⟨fun r hr => (hok (hm r hr)).1, lexes_rows fun r hr => (hok (hm r hr)).2, hsz, hk, fun r hr => (fin1_get (hm r hr)).1, ⟨ht2, by omega⟩, col_in hk, hrings, ?_, ?_, ?_, ?_, ?_, ?_, ?_⟩ <;> rw [hE]
  · exact fun r hr => (fin1_get (hu0 r hr)).1
  · rw [hT.length_eq]; omega
  · exact fun r hr => (hok (htm r hr)).1
  · exact lexes_rows fun r hr => (hok (htm r hr)).2
  · exact fun r hr => (fin1_get (htm r hr)).1
  · exact htk.length_eq.trans hk
  · exact col_perm htk hk
theorem back_at {a n k : Nat} (h : a = n) (hk : k < n) : ((a : Int) - 1 - (k : Int)).toNat = n - 1 - k := by omega
theorem back_lt {n k : Nat} (hk : k < n) : n - 1 - k < n := by omega
end Mine
end
end
local macro_rules | `(tactic| omega) => `(tactic| first | exact kun (by assumption) (by rfl) | exact kun2 (by assumption) (by rfl) | exact kun3 (by assumption) (by rfl) | omega (splitDisjunctions := true))

section
open PySem PySem.W PySem.Calls PyProof.Rows PySem.MeetsSeq
set_option Elab.async false
set_option maxRecDepth 100000
set_option maxHeartbeats 4000000
set_option linter.unusedVariables false
namespace Mine
theorem pick6 {total : Int} (hk : 0 ≤ total.fmod 6) (hk' : total.fmod 6 < 6) : ∀ (t1 t2 t3 t4 t5 t6 : Tok), ∃ t, [Value.bytes #[43, 47] t1, Value.bytes #[34, 32] t2, Value.bytes #[92, 34] t3, Value.bytes #[10, 92] t4, Value.bytes #[32, 10] t5, Value.bytes #[45, 95] t6][(total.fmod 6).toNat]? = some (.bytes #[(altF total).1, (altF total).2] t) := by
  intro t1 t2 t3 t4 t5 t6
  unfold altF
  generalize total.fmod 6 = kk at hk hk' ⊢
  rcases (show kk = 0 ∨ kk = 1 ∨ kk = 2 ∨ kk = 3 ∨ kk = 4 ∨ kk = 5 by omega) with e | e | e | e | e | e <;> subst e <;> exact ⟨_, rfl⟩
theorem news_new {g : Heap} {L D : Addr} {h h' : Heap} {m : Str → Option Value} {news : List (Addr × Obj)} {o : Obj} (F : Fr g L h m) (N : News g L h news) (K : KeepBut [] h h') (e0 : h.get? D = none) (e : h'.get? D = some o) : Fr g L h' m ∧ News g L h' ((D, o) :: news) := by
  refine ⟨fr_after F K (by simp) (by simp), fun q hq => ?_⟩
  (revert q; refine fmc ?_ fun q hq => ?_)
  · refine ⟨e, fun q => ?_, ?_⟩
    · obtain ⟨o', _, _, e2, _⟩ := F.ns
      rw [show D = L from q, e2] at e0; cases e0
    · show g.get? D = none
      cases e2 : g.get? D with
      | none => rfl
      | some o' => rw [F.keep _ _ e2] at e0; cases e0
  · exact news_after N K (fun _ _ q => nomatch q) q hq
theorem heard_step {w : World} {dp un : Nat} {fr gd} {s : Shared} {g : Heap} {L lr : Addr} {m : Str → Option Value} {p : Program} {loose : List Str} {mg mb : Str → Option Value} {vs : List Value} {n : Nat} {rows : List (List UInt8)} {x y : UInt8} {way : Int} {tp tw : Tok} {ps : Array Value} {cs own : List (Addr × Obj)} {R : Result → Shared → Prop}
    (X : (hd.heap_1 w.params).In g) (T : TopRead p loose mg mb g) (Tp : ∃ p loose mean mg mb, Top p loose mean mg mb g) (F : Fr g L s.heap m) (N : News g L s.heap (own ++ (196, tabObj ps) :: cs)) (hT : TabSt ps cs) (h196 : (196 : Nat) < L) (how : ∀ q ∈ own, q.1 ≠ 196) (hdp : dp < 850) (hu : un < 8500)
    (hm : (lr, listOf vs.toArray n) ∈ own) (hcs : ∀ q ∈ cs, q.1 ≠ lr) (hv : BytesAre vs rows)
    (hrow : ∀ r ∈ rows, RowOk x y r = true) (hn : rows.length ≤ 1000) (hlex : Lexes (wordsF rows x y) (piecesF rows x y way).flatten)
    (h : ∀ h' tk ps' cs' D vs' n', Fr g L h' m → News g L h' ((D, listOf vs'.toArray n') :: (own ++ (196, tabObj ps') :: cs')) → TabSt ps' cs' → BytesAre vs' rows → R (.ok (.ret (.ref D))) { s with heap := h', toks := tk }) :
    codeAny (model PP w) (AA dp un fr gd) (.call (.ref 221) ⟨[.ref lr, .bytes #[x, y] tp, .int way tw], []⟩) R s := by
  have hlr := how _ hm
  refine heard_call (at_of (ws := (196, tabObj ps) :: cs) X T F N (fun q hq => List.mem_append_right _ hq)) hT Tp hdp hu (News.isList N (List.mem_append_left _ hm)) ⟨hlr, hcs⟩ hv hrow hn hlex ?_
  intro h' tk ps' cs' D vs' n' K hT' hq' e0 eD hv'
  have w196 := N _ (List.mem_append_right own (.head _))
  have F' := fr_after F K (by rw [List.mem_singleton]; exact fun e => w196.2.1 e.symm) (by intro a ha; rw [List.mem_singleton.mp ha]; exact w196.2.2)
  have hLobj : ∀ q ∈ cs', q.1 ≠ L := by
    intro q hq e
    rcases hT' with ⟨_, rfl⟩ | ⟨c1, c2, o1, _, rfl, ⟨vr, tr, hr1, _⟩, _⟩
    · cases hq
    · obtain ⟨o, es, ep, e2, e3, _⟩ := F'.ns
      have h1 := (hq' q (.tail _ hq)).1
      rw [e, e2] at h1
      rw [List.mem_singleton.mp hq] at h1
      cases h1
      rw [hr1] at e3; cases e3
  refine h h' tk ps' cs' D vs' n' F' (fun q hq => ?_) hT' hv'
  (revert q; refine fmc ?_ fun q hq => ?_)
  · refine ⟨eD, fun q => ?_, ?_⟩
    · obtain ⟨o', _, _, e2, _⟩ := F.ns
      rw [show D = L from q, e2] at e0; cases e0
    · show g.get? D = none
      cases e2 : g.get? D with
      | none => rfl
      | some o' => rw [F.keep _ _ e2] at e0; cases e0
  · rcases List.mem_append.mp hq with hq | hq
    · exact ⟨K _ _ (by rw [List.mem_singleton]; exact how q hq) (N q (List.mem_append_left _ hq)).1, (N q (List.mem_append_left _ hq)).2⟩
    · rcases List.mem_cons.mp hq with rfl | hq
      · exact ⟨(hq' _ (.head _)).1, w196.2⟩
      · exact ⟨(hq' _ (.tail _ hq)).1, hLobj q hq, (hq' _ (.tail _ hq)).2⟩
theorem sum_cast : ∀ bag : List (List UInt8), (bag.map fun r => (r.length : Int)).sum = (sizeF bag : Int)
  | [] => rfl
  | r :: t => by
    have := sum_cast t
    unfold sizeF at this ⊢
    simp only [List.map_cons, List.sum_cons]
    omega
open PySem.SeqAt in
theorem ints_at {A : Around} {s : Shared} {vs us : List Value} {xs ys : List Int} (hv : IntsAre vs xs) (hw : IntsAre us ys) (j) (h1 : j < vs.length) (h2 : j < us.length) : EqAt A s vs[j] us[j] (decide (xs[j]? = ys[j]?)) := by
  have l1 : j < xs.length := by rw [← hv.length]; exact h1
  have l2 : j < ys.length := by rw [← hw.length]; exact h2
  obtain ⟨t, e1⟩ := hv.get j xs[j] (by simp)
  obtain ⟨u, e2⟩ := hw.get j ys[j] (by simp)
  have e3 : vs[j] = .int xs[j] t := by rw [List.getElem?_eq_getElem h1] at e1; exact Option.some.inj e1
  have e4 : us[j] = .int ys[j] u := by rw [List.getElem?_eq_getElem h2] at e2; exact Option.some.inj e2
  rw [e3, e4, List.getElem?_eq_getElem l1, List.getElem?_eq_getElem l2, show decide (some xs[j] = some ys[j]) = (xs[j] == ys[j]) by rw [Bool.eq_iff_iff, decide_eq_true_iff, beq_iff_eq, Option.some.injEq]]
  exact EqAt.int_int _ t _ u
theorem eq_intsL {prog : Program} {w : World} {A : Around} {E : Value → Shared → Prop} {s : Shared} {a b : Addr} {vs us : List Value} {Q : Value → Shared → Prop} {xs ys : List Int} (hl : s.heap.IsList a vs.toArray) (hb : s.heap.IsList b us.toArray) (hv : IntsAre vs xs) (hw : IntsAre us ys) (hu : A.units < cLine) (h : Q (.bool (decide (xs = ys))) s) : wpAny (model prog w) A (compareOp .Eq (.ref a) (.ref b)) Q E s :=
  eq_lists hl hb hv.length hw.length hu (ints_at hv hw) h
theorem for_listL {σ : Type} {w : World} {A : Around} {s : Shared} {env : Env} {g : Heap} {L : Addr} {x : Str} {px : Pos} {body : List Stmt} {l : Addr} {vs : List Value} {m₀ : Str → Option Value} {Q : Flow → Shared → Prop} (hh : A.handled = none)
    (hl : s.heap.IsList l vs.toArray) (hl0 : g.get? l = none) (hlL : l ≠ L) (ps : Nat → σ → List (Str × Value)) (Led : Nat → σ → List (Addr × Obj)) (P : Nat → σ → Prop) (c₀ : σ)
    (hled : ∀ i c, P i c → ∀ p ∈ Led i c, p.1 ≠ s.heap.objs.size ∧ p.1 ≠ l)
    (F : Fr g L s.heap m₀) (hps : ∀ p ∈ ps 0 c₀, m₀ p.1 = some p.2) (N : News g L s.heap (Led 0 c₀)) (hP : P 0 c₀)
    (turn : ∀ i c v u h tk own, vs[i]? = some v → P i c → (∀ q ∈ own, q.1 = s.heap.objs.size ∨ q.1 = l) → Fr g L h (kstB u (ps i c)) → News g L h (Led i c ++ own) →
      wpAny (model PP w) A (assign (.Name x px) env v) (fun _ s₂ => wpAny (model PP w) A (execs body env) (FPost g L (ps (i + 1)) (Led (i + 1)) (P (i + 1)) own s Q) (fun _ _ => False) s₂) (fun _ _ => False) { s with heap := h, toks := tk })
    (done : ∀ c u h tk, P vs.length c → Fr g L h (kstB u (ps vs.length c)) → News g L h (Led vs.length c) → Q .next { s with heap := h, toks := tk }) :
    wpAny (model PP w) A (pyIter (.ref l)) (fun it s₂ => codeAny (model PP w) A (.forLoop (.Name x px) it body [] env) (fun r s' => match r with | .ok f => Q f s' | .error e => cameBackBy (model PP w) A env (fun _ _ => False) e s') s₂) (fun _ _ => False) s := by
  obtain ⟨ol, hol, _⟩ := id hl
  have hlI : l ≠ s.heap.objs.size := Nat.ne_of_lt (Heap.lt_size hol)
  refine wpAny_pyIter_list hl ?_
  have W := Walks.list (prog := PP) (w := w) (A := A) hh s.heap.objs.size l hlI vs.toArray
  rw [List.size_toArray] at W
  refine forLoop_st W ps Led P c₀ (.head _) (next_is_new F) (fun i h st => by obtain ⟨o, e, _⟩ := st.1; exact ⟨o, e⟩) ?_ ?_ ?_ ?_ (F.push _) hps (N.grown fun _ _ e => Heap.get?_push_of_some _ e) hP ?_ ?_
  · simp only [List.mem_cons, List.not_mem_nil, or_false, not_or]
    exact ⟨Nat.ne_of_lt F.ns.lt, fun e => hlL e.symm⟩
  · intro b hb; (revert b; refine fms ?_); exact next_is_new F
  · intro i c hc p hp; simp only [List.mem_cons, List.not_mem_nil, or_false, not_or]; exact hled i c hc p hp
  · exact ⟨⟨_, Heap.get?_push_size _ rfl, rfl, rfl⟩, hl.push _⟩
  · rintro i c v u h tk own hi hv hc hown hI F' N'
    refine turn i c v u h tk own (by simpa using hv) hc (fun q hq => ?_) F' N'
    have := hown q hq
    exact (List.mem_cons.mp this).imp id List.mem_singleton.mp
  · intro c u h tk hc F' N'
    exact done c u h tk hc F' N'
theorem pick3 (x : Int) (j : Nat) : ∀ (t1 t2 t3 : Tok), ∃ t, [Value.int 190 t1, Value.int 251 t2, Value.int 255 t3][(((x.fdiv 6).fdiv (3 ^ j)).fmod 3).toNat]? = some (.int (digitF x j) t) := by
  intro t1 t2 t3
  have hk := Int.fmod_nonneg_of_pos ((x.fdiv 6).fdiv (3 ^ j)) (show (0 : Int) < 3 by decide)
  have hk' := Int.fmod_lt_of_pos ((x.fdiv 6).fdiv (3 ^ j)) (show (0 : Int) < 3 by decide)
  unfold digitF
  generalize ((x.fdiv 6).fdiv (3 ^ j)).fmod 3 = kk at hk hk' ⊢
  rcases (show kk = 0 ∨ kk = 1 ∨ kk = 2 by omega) with e | e | e <;> subst e <;> exact ⟨_, rfl⟩
theorem digitF_in (x : Int) (j : Nat) : 0 ≤ digitF x j ∧ digitF x j < 256 := by
  have hk := Int.fmod_nonneg_of_pos ((x.fdiv 6).fdiv (3 ^ j)) (show (0 : Int) < 3 by decide)
  have hk' := Int.fmod_lt_of_pos ((x.fdiv 6).fdiv (3 ^ j)) (show (0 : Int) < 3 by decide)
  unfold digitF
  generalize ((x.fdiv 6).fdiv (3 ^ j)).fmod 3 = kk at hk hk' ⊢
  rcases (show kk = 0 ∨ kk = 1 ∨ kk = 2 by omega) with e | e | e <;> subst e <;> decide
/-- what the loop over the numbers turns: the cell of x, the bag -/
structure BS where
  oX : Obj
  its : List Value
  n : Nat
theorem law_claim (a : List WData) : Challenge.rw_oy0121_01.row.toRowW.claim.post a (.bool true) a = true := by kernel_rfl
theorem Law : Challenge.rw_oy0121_01.Holds := hd (by
  k_go0
  all_goals (try k_fold)
  rename (hd.heap_1 _).In _ => X
  rename Top _ _ _ _ _ _ => Tp
  rename Fr _ _ _ _ => F₁
  rename News _ _ _ _ => N₁
  rename IntsAre _ _ => hI
  rename (196 : Nat) < _ => h196
  rename (ghostOf _ _).IsList _ _ => hls
  rename (_ = Data.cell _) => hcX
  rename Obj => oX
  replace hcX := (show oX.data = .cell none from hcX)
  rename Shared => s₁
  rename List Int => script
  have T := topRead_of Tp
  replace Tp : ∃ p loose mean mg mb, Top p loose mean mg mb (ghostOf s₁.heap [(200, 196)]) := ⟨_, _, _, _, _, Tp⟩
  generalize ghostOf s₁.heap [(200, 196)] = g at X T Tp F₁ N₁ hls
  generalize s₁.heap.objs.size = L at F₁ N₁ h196 ⊢
  (try clear TM); (try clear TE); (try clear TW)
  refine wpAny_mono (E := fun _ _ => False) ?_ (fun _ _ h => h) (fun _ _ h => h.elim)
  ((repeat' (first | walk_at "use" | walk_at "cutx" | (k_unfold; try dsimp only) | ((with_reducible show wpAny _ _ (eval (Expr.Name _ _) (compEnvC _ _ _ _)) _ _ _); first | refine ld_blt (by k_asm) (by k_asm) (by with_reducible assumption) (by k_is) (by boot_by_name) (by decide) ?_ | refine ld_glb (by k_asm) (by k_asm) (by with_reducible assumption) (by k_is) ?_) | ((fail_if_success (with_reducible (refine stopAt ?_ ?_; rotate_left; first | exact s26 | exact s1 | exact s2 | exact s3 | exact s4 | exact s5 | exact s16 | exact s6 | exact s8 | exact s11 | exact s12 | exact s25 | exact s23 | exact s24 | exact s9 | exact s10 | exact s7))); (fail_if_success (with_reducible first | show wpAny _ _ (binaryOp Operator.FloorDiv _ (Value.int (HPow.hPow _ _) _)) _ _ _ | show LCg.CompSrc _ _ _ _ _ _ _ _ _ _ _ _ _ _ | show LCt.CompSrcT _ _ _ _ _ _ _ _ _ _ _ _ _ _ _ | show LCp.SrcLP _ _ _ _ _ _ _ _ _ _ _ _ _ _ _ | show LCg.CompEnd _ _ _ _ _ _ _ _ _ _ _ _ _ _)); first | walk1 | (dsimp only; walk1)))); walk_at "kend")
  rename Fr _ _ _ _ => F₂
  rename News _ _ _ _ => N₂
  rename IntsAre _ (List.take 3 _) => hI3
  rename (_ < _) ∧ _ => hlA
  rename_i LN wsN _ _ _ hlN _ _ _ _ _ _ tt _ _ _ LA h₂ _ _
  have hk := Int.fmod_nonneg_of_pos (List.take 3 script).sum (show (0 : Int) < 6 by decide)
  have hk' := Int.fmod_lt_of_pos (List.take 3 script).sum (show (0 : Int) < 6 by decide)
  have hpick := pick6 hk hk'
  obtain ⟨tp, hp⟩ := hpick _ _ _ _ _ _
  refine kba_turn (value' := .Name (Str.ofString "word") ⟨0, 0, 0, 0⟩) (by intro _; with_unfolding_all rfl) ?_
  refine item_ N₂ (.head _) hk hp (by simp) ?_
  have N₂ : News _ _ h₂ _ := fun p hp => N₂ p (.tail _ hp)
  ((repeat' (first | walk_at "use" | walk_at "cutx" | (k_unfold; try dsimp only) | ((with_reducible show wpAny _ _ (eval (Expr.Name _ _) (compEnvC _ _ _ _)) _ _ _); first | refine ld_blt (by k_asm) (by k_asm) (by with_reducible assumption) (by k_is) (by boot_by_name) (by decide) ?_ | refine ld_glb (by k_asm) (by k_asm) (by with_reducible assumption) (by k_is) ?_) | ((fail_if_success (with_reducible (refine stopAt ?_ ?_; rotate_left; first | exact s26 | exact s1 | exact s2 | exact s3 | exact s4 | exact s5 | exact s16 | exact s6 | exact s8 | exact s11 | exact s12 | exact s25 | exact s23 | exact s24 | exact s9 | exact s10 | exact s7))); (fail_if_success (with_reducible first | show wpAny _ _ (binaryOp Operator.FloorDiv _ (Value.int (HPow.hPow _ _) _)) _ _ _ | show LCg.CompSrc _ _ _ _ _ _ _ _ _ _ _ _ _ _ | show LCt.CompSrcT _ _ _ _ _ _ _ _ _ _ _ _ _ _ _ | show LCp.SrcLP _ _ _ _ _ _ _ _ _ _ _ _ _ _ _ | show LCg.CompEnd _ _ _ _ _ _ _ _ _ _ _ _ _ _)); first | walk1 | (dsimp only; walk1)))); walk_at "kend")
  rename Fr _ _ _ _ => F₃
  rename News _ _ _ _ => N₃
  rename_i tB _ _ _ _ _ _ LB _ hlB h₃ _ _
  have zN := N₃ _ (.tail _ (.tail _ (.head _)))
  have hnl : (List.take 3 script).length ≤ 3 := by simp; omega
  have hwl : wsN.length = (List.take 3 script).length := hI3.length
  generalize List.take 3 script = ns at *
  refine wpAny_For ?_
  ((repeat' (first | walk_at "use" | walk_at "cutx" | (k_unfold; try dsimp only) | ((with_reducible show wpAny _ _ (eval (Expr.Name _ _) (compEnvC _ _ _ _)) _ _ _); first | refine ld_blt (by k_asm) (by k_asm) (by with_reducible assumption) (by k_is) (by boot_by_name) (by decide) ?_ | refine ld_glb (by k_asm) (by k_asm) (by with_reducible assumption) (by k_is) ?_) | ((fail_if_success (with_reducible (refine stopAt ?_ ?_; rotate_left; first | exact s26 | exact s1 | exact s2 | exact s3 | exact s4 | exact s5 | exact s16 | exact s6 | exact s8 | exact s11 | exact s12 | exact s25 | exact s23 | exact s24 | exact s9 | exact s10 | exact s7))); (fail_if_success (with_reducible first | show wpAny _ _ (binaryOp Operator.FloorDiv _ (Value.int (HPow.hPow _ _) _)) _ _ _ | show LCg.CompSrc _ _ _ _ _ _ _ _ _ _ _ _ _ _ | show LCt.CompSrcT _ _ _ _ _ _ _ _ _ _ _ _ _ _ _ | show LCp.SrcLP _ _ _ _ _ _ _ _ _ _ _ _ _ _ _ | show LCg.CompEnd _ _ _ _ _ _ _ _ _ _ _ _ _ _)); first | walk1 | (dsimp only; walk1)))); walk_at "kend")
  refine for_listL (s := ⟨h₃, _, _, _, _⟩) (σ := BS) (by rfl) (News.isList N₃ (.tail _ (.tail _ (.head _)))) zN.2.2 zN.2.1 (fun _ _ => [("total", .int ns.sum tt), ("altchars", .bytes #[(altF ns.sum).1, (altF ns.sum).2] tp), ("bag", .ref LB)])
    (fun _ c => [(LB, listOf c.its.toArray c.n), (L + 1, c.oX), (196, tabObj #[])])
    (fun i c => (∃ x, c.oX.data = .cell x) ∧ BytesAre c.its (bagF (ns.take i))) ⟨oX, [.bytes ([251, 190, 251, 190] : List UInt8).toArray tB], 0⟩ ?_ F₃ (by (repeat' (first | exact fmn | refine fmc (@rfl (Option Value) (some _)) ?_))) ?_ ⟨⟨_, hcX⟩, .cons _ _ .nil⟩ ?_ ?_
  · rintro i c _ p hp
    have zI : ∀ {a : Addr} {o : Obj}, (a, o) ∈ _ → a ≠ h₃.objs.size := fun hm => Nat.ne_of_lt (Heap.lt_size (N₃ _ hm).1)
    (revert p; refine fmc ?_ fun p hp => ?_)
    · exact ⟨zI (.head _), Nat.ne_of_gt hlB.2.1⟩
    · (revert p; refine fmc ?_ fun p hp => ?_)
      · exact ⟨zI (.tail _ (.tail _ (.tail _ (.head _)))), Nat.ne_of_lt hlN.1⟩
      · (revert p; refine fms ?_)
        exact ⟨zI (.tail _ (.tail _ (.tail _ (.tail _ (.head _))))), Nat.ne_of_lt hlN.2⟩
  · intro p hp
    refine N₃ p ?_
    (revert p; refine fmc ?_ fun p hp => ?_)
    · exact .head _
    · (revert p; refine fmc ?_ fun p hp => ?_)
      · exact .tail _ (.tail _ (.tail _ (.head _)))
      · (revert p; refine fms ?_)
        exact .tail _ (.tail _ (.tail _ (.tail _ (.head _))))
  · rintro i ⟨oX, its, n⟩ v u h₄ tk₄ own hvi ⟨⟨xX, hxX⟩, hits⟩ hown F₄ N₄
    dsimp only [kstB] at hxX hits F₄ N₄ ⊢
    have hi : i < ns.length := by have := (List.getElem?_eq_some_iff.mp hvi).1; omega
    obtain ⟨tv, hvv⟩ := hI3.get i ns[i] (by simp)
    have hv : v = .int ns[i] tv := by rw [hvv] at hvi; exact (Option.some.inj hvi).symm
    subst hv
    have hni : ns[i]? = some ns[i] := by simp
    generalize ns[i] = x at hvv hvi hni ⊢
    have N₄ : News g L h₄ ((LB, listOf its.toArray n) :: (L + 1, oX) :: (196, tabObj #[]) :: own) := N₄
    ((repeat' (first | walk_at "use" | walk_at "cutx" | (k_unfold; try dsimp only) | ((with_reducible show wpAny _ _ (eval (Expr.Name _ _) (compEnvC _ _ _ _)) _ _ _); first | refine ld_blt (by k_asm) (by k_asm) (by with_reducible assumption) (by k_is) (by boot_by_name) (by decide) ?_ | refine ld_glb (by k_asm) (by k_asm) (by with_reducible assumption) (by k_is) ?_) | ((fail_if_success (with_reducible (refine stopAt ?_ ?_; rotate_left; first | exact s26 | exact s1 | exact s2 | exact s3 | exact s4 | exact s5 | exact s16 | exact s6 | exact s8 | exact s11 | exact s12 | exact s25 | exact s23 | exact s24 | exact s9 | exact s10 | exact s7))); (fail_if_success (with_reducible first | show wpAny _ _ (binaryOp Operator.FloorDiv _ (Value.int (HPow.hPow _ _) _)) _ _ _ | show LCg.CompSrc _ _ _ _ _ _ _ _ _ _ _ _ _ _ | show LCt.CompSrcT _ _ _ _ _ _ _ _ _ _ _ _ _ _ _ | show LCp.SrcLP _ _ _ _ _ _ _ _ _ _ _ _ _ _ _ | show LCg.CompEnd _ _ _ _ _ _ _ _ _ _ _ _ _ _)); first | walk1 | (dsimp only; walk1)))); walk_at "kend")
    have hownL : ∀ q ∈ own, q.1 ≠ L + 1 := by
      intro q hq
      rcases hown q hq with e | e
      · rw [e]; exact Nat.ne_of_gt (Heap.lt_size (N₃ _ (.tail _ (.tail _ (.tail _ (.head _))))).1)
      · rw [e]; exact Nat.ne_of_gt hlN.1
    refine storeX_C F₄ N₄ (by rfl) (UpdF.tail (Nat.ne_of_gt hlB.2.2.1) (UpdF.head fun q hq => ?_)) hxX ?_
    · (revert q; refine fmc ?_ fun q hq => ?_)
      · exact Nat.ne_of_lt (Nat.lt_succ_of_lt h196)
      · exact hownL q hq
    intro h₅ oX' F₅ N₅ hxX'
    clear F₄ N₄ hxX
    ((repeat' (first | walk_at "use" | walk_at "cutx" | (k_unfold; try dsimp only) | ((with_reducible show wpAny _ _ (eval (Expr.Name _ _) (compEnvC _ _ _ _)) _ _ _); first | refine ld_blt (by k_asm) (by k_asm) (by with_reducible assumption) (by k_is) (by boot_by_name) (by decide) ?_ | refine ld_glb (by k_asm) (by k_asm) (by with_reducible assumption) (by k_is) ?_) | ((fail_if_success (with_reducible (refine stopAt ?_ ?_; rotate_left; first | exact s26 | exact s1 | exact s2 | exact s3 | exact s4 | exact s5 | exact s16 | exact s6 | exact s8 | exact s11 | exact s12 | exact s25 | exact s23 | exact s24 | exact s9 | exact s10 | exact s7))); (fail_if_success (with_reducible first | show wpAny _ _ (binaryOp Operator.FloorDiv _ (Value.int (HPow.hPow _ _) _)) _ _ _ | show LCg.CompSrc _ _ _ _ _ _ _ _ _ _ _ _ _ _ | show LCt.CompSrcT _ _ _ _ _ _ _ _ _ _ _ _ _ _ _ | show LCp.SrcLP _ _ _ _ _ _ _ _ _ _ _ _ _ _ _ | show LCg.CompEnd _ _ _ _ _ _ _ _ _ _ _ _ _ _)); first | walk1 | (dsimp only; walk1)))); walk_at "kend")
    refine LCg.Assign_ListComp_U (F₀ := F₅) (by rfl) (by with_unfolding_all rfl) (by rfl) (by decide) (by rfl) (by decide) (by rfl) (by rfl) (by rfl) ?_
    ((repeat' (first | walk_at "use" | walk_at "cutx" | (k_unfold; try dsimp only) | ((with_reducible show wpAny _ _ (eval (Expr.Name _ _) (compEnvC _ _ _ _)) _ _ _); first | refine ld_blt (by k_asm) (by k_asm) (by with_reducible assumption) (by k_is) (by boot_by_name) (by decide) ?_ | refine ld_glb (by k_asm) (by k_asm) (by with_reducible assumption) (by k_is) ?_) | ((fail_if_success (with_reducible (refine stopAt ?_ ?_; rotate_left; first | exact s26 | exact s1 | exact s2 | exact s3 | exact s4 | exact s5 | exact s16 | exact s6 | exact s8 | exact s11 | exact s12 | exact s25 | exact s23 | exact s24 | exact s9 | exact s10 | exact s7))); (fail_if_success (with_reducible first | show wpAny _ _ (binaryOp Operator.FloorDiv _ (Value.int (HPow.hPow _ _) _)) _ _ _ | show LCg.CompSrc _ _ _ _ _ _ _ _ _ _ _ _ _ _ | show LCt.CompSrcT _ _ _ _ _ _ _ _ _ _ _ _ _ _ _ | show LCp.SrcLP _ _ _ _ _ _ _ _ _ _ _ _ _ _ _ | show LCg.CompEnd _ _ _ _ _ _ _ _ _ _ _ _ _ _)); first | walk1 | (dsimp only; walk1)))); walk_at "kend")
    rename IsRange _ _ _ _ _ _ _ _ => hr
    rename Fr _ _ _ _ => F₆
    rename News _ _ _ _ => N₆
    have hd0 := Int.fmod_nonneg_of_pos (x.fdiv 2) (show (0 : Int) < 3 by decide)
    have hd1 := Int.fmod_lt_of_pos (x.fdiv 2) (show (0 : Int) < 3 by decide)
    obtain ⟨nr, hnr⟩ : ∃ nr : Nat, (1 : Int) + (x.fdiv 2).fmod 3 = (nr : Int) := ⟨(1 + (x.fdiv 2).fmod 3).toNat, by omega⟩
    have hroot : rootI x = (List.range nr).map (digitF x) := by unfold rootI; rw [hnr, Int.toNat_natCast]
    rw [hnr] at hr
    refine LCg.CompSrc.range rfl F₆ N₆ hr (range_small _ (by omega)) (range_size _) (by rw [sizeLine_eq]; omega) ?_
    intro g'
    refine compRest_of (fun j ys news => news = (LB, listOf its.toArray n) :: (L + 1, oX') :: (196, tabObj #[]) :: own ∧ IntsAre ys ((List.range j).map (digitF x))) ⟨rfl, .nil⟩ ?_ ?_
    · rintro j ys news v I oI C oC D m₂ h₇ tk₇ E' hj ⟨rfl, hys⟩ ⟨tv₂, rfl⟩ hoC hm₂ F₇ N₇ hoff hne
      simp only [LCg.Off3] at hoff
      rw [show (0 : Int) + (j : Int) = (j : Int) by omega] at hm₂
      dsimp only
      ((repeat' (first | walk_at "use" | walk_at "cutx" | (k_unfold; try dsimp only) | ((with_reducible show wpAny _ _ (eval (Expr.Name _ _) (compEnvC _ _ _ _)) _ _ _); first | refine ld_blt (by k_asm) (by k_asm) (by with_reducible assumption) (by k_is) (by boot_by_name) (by decide) ?_ | refine ld_glb (by k_asm) (by k_asm) (by with_reducible assumption) (by k_is) ?_) | ((fail_if_success (with_reducible (refine stopAt ?_ ?_; rotate_left; first | exact s26 | exact s1 | exact s2 | exact s3 | exact s4 | exact s5 | exact s16 | exact s6 | exact s8 | exact s11 | exact s12 | exact s25 | exact s23 | exact s24 | exact s9 | exact s10 | exact s7))); (fail_if_success (with_reducible first | show wpAny _ _ (binaryOp Operator.FloorDiv _ (Value.int (HPow.hPow _ _) _)) _ _ _ | show LCg.CompSrc _ _ _ _ _ _ _ _ _ _ _ _ _ _ | show LCt.CompSrcT _ _ _ _ _ _ _ _ _ _ _ _ _ _ _ | show LCp.SrcLP _ _ _ _ _ _ _ _ _ _ _ _ _ _ _ | show LCg.CompEnd _ _ _ _ _ _ _ _ _ _ _ _ _ _)); first | walk1 | (dsimp only; walk1)))); walk_at "kend")
      rw [Int.toNat_natCast]
      have h3 : 0 < (3 : Int) ^ j ∧ (3 : Int) ^ j ≤ 9 := by
        rcases (show j = 0 ∨ j = 1 ∨ j = 2 by omega) with e | e | e <;> subst e <;> decide
      refine floordiv_int (Int.ne_of_gt h3.1) ?_ (.inl (PyProof.noPylong_small (by omega)))
      ((repeat' (first | walk_at "use" | walk_at "cutx" | (k_unfold; try dsimp only) | ((with_reducible show wpAny _ _ (eval (Expr.Name _ _) (compEnvC _ _ _ _)) _ _ _); first | refine ld_blt (by k_asm) (by k_asm) (by with_reducible assumption) (by k_is) (by boot_by_name) (by decide) ?_ | refine ld_glb (by k_asm) (by k_asm) (by with_reducible assumption) (by k_is) ?_) | ((fail_if_success (with_reducible (refine stopAt ?_ ?_; rotate_left; first | exact s26 | exact s1 | exact s2 | exact s3 | exact s4 | exact s5 | exact s16 | exact s6 | exact s8 | exact s11 | exact s12 | exact s25 | exact s23 | exact s24 | exact s9 | exact s10 | exact s7))); (fail_if_success (with_reducible first | show wpAny _ _ (binaryOp Operator.FloorDiv _ (Value.int (HPow.hPow _ _) _)) _ _ _ | show LCg.CompSrc _ _ _ _ _ _ _ _ _ _ _ _ _ _ | show LCt.CompSrcT _ _ _ _ _ _ _ _ _ _ _ _ _ _ _ | show LCp.SrcLP _ _ _ _ _ _ _ _ _ _ _ _ _ _ _ | show LCg.CompEnd _ _ _ _ _ _ _ _ _ _ _ _ _ _)); first | walk1 | (dsimp only; walk1)))); walk_at "kend")
      rename Fr _ _ _ _ => F₈
      rename News _ _ _ _ => N₈
      have hk := Int.fmod_nonneg_of_pos ((x.fdiv 6).fdiv (3 ^ j)) (show (0 : Int) < 3 by decide)
      have hk' := Int.fmod_lt_of_pos ((x.fdiv 6).fdiv (3 ^ j)) (show (0 : Int) < 3 by decide)
      have hpick := pick3 x j
      obtain ⟨td, hp⟩ := hpick _ _ _
      refine kba_turn (value' := .Name (Str.ofString "word") ⟨0, 0, 0, 0⟩) (by intro _; with_unfolding_all rfl) ?_
      refine item_ N₈ (.head _) hk hp (by simp) ?_
      ((repeat' (first | walk_at "use" | walk_at "cutx" | (k_unfold; try dsimp only) | ((with_reducible show wpAny _ _ (eval (Expr.Name _ _) (compEnvC _ _ _ _)) _ _ _); first | refine ld_blt (by k_asm) (by k_asm) (by with_reducible assumption) (by k_is) (by boot_by_name) (by decide) ?_ | refine ld_glb (by k_asm) (by k_asm) (by with_reducible assumption) (by k_is) ?_) | ((fail_if_success (with_reducible (refine stopAt ?_ ?_; rotate_left; first | exact s26 | exact s1 | exact s2 | exact s3 | exact s4 | exact s5 | exact s16 | exact s6 | exact s8 | exact s11 | exact s12 | exact s25 | exact s23 | exact s24 | exact s9 | exact s10 | exact s7))); (fail_if_success (with_reducible first | show wpAny _ _ (binaryOp Operator.FloorDiv _ (Value.int (HPow.hPow _ _) _)) _ _ _ | show LCg.CompSrc _ _ _ _ _ _ _ _ _ _ _ _ _ _ | show LCt.CompSrcT _ _ _ _ _ _ _ _ _ _ _ _ _ _ _ | show LCp.SrcLP _ _ _ _ _ _ _ _ _ _ _ _ _ _ _ | show LCg.CompEnd _ _ _ _ _ _ _ _ _ _ _ _ _ _)); first | walk1 | (dsimp only; walk1)))); walk_at "kend")
      refine CompEnd.mk' F₈ (fun p hp => N₈ p (.tail _ hp)) hoff trivial ⟨rfl, ?_⟩
      rw [List.range_succ, List.map_append]
      exact hys.append (.cons _ _ .nil)
    · rintro ys news ⟨rfl, hys⟩
      rw [← hroot] at hys
      (try clear F₆); (try clear N₆); (try clear F₅); (try clear N₅); (try clear hr)
      ((repeat' (first | walk_at "use" | walk_at "cutx" | (k_unfold; try dsimp only) | ((with_reducible show wpAny _ _ (eval (Expr.Name _ _) (compEnvC _ _ _ _)) _ _ _); first | refine ld_blt (by k_asm) (by k_asm) (by with_reducible assumption) (by k_is) (by boot_by_name) (by decide) ?_ | refine ld_glb (by k_asm) (by k_asm) (by with_reducible assumption) (by k_is) ?_) | ((fail_if_success (with_reducible (refine stopAt ?_ ?_; rotate_left; first | exact s26 | exact s1 | exact s2 | exact s3 | exact s4 | exact s5 | exact s16 | exact s6 | exact s8 | exact s11 | exact s12 | exact s25 | exact s23 | exact s24 | exact s9 | exact s10 | exact s7))); (fail_if_success (with_reducible first | show wpAny _ _ (binaryOp Operator.FloorDiv _ (Value.int (HPow.hPow _ _) _)) _ _ _ | show LCg.CompSrc _ _ _ _ _ _ _ _ _ _ _ _ _ _ | show LCt.CompSrcT _ _ _ _ _ _ _ _ _ _ _ _ _ _ _ | show LCp.SrcLP _ _ _ _ _ _ _ _ _ _ _ _ _ _ _ | show LCg.CompEnd _ _ _ _ _ _ _ _ _ _ _ _ _ _)); first | walk1 | (dsimp only; walk1)))); walk_at "kend")
      rename Fr _ _ _ _ => F₆
      rename News _ _ _ _ => N₆
      rename (_ ≠ _) ∧ _ => hoR
      have hx0 := Int.fmod_nonneg_of_pos x (show (0 : Int) < 2 by decide)
      have hx1 := Int.fmod_lt_of_pos x (show (0 : Int) < 2 by decide)
      have hrl : (rootI x).length ≤ 3 := by rw [hroot]; simp; omega
      have hysl : ys.length ≤ 3 := by rw [hys.length]; exact hrl
      refine KM.mul F₆ N₆ (News.isList N₆ (.head _)) hys (by omega) (by omega) (Nat.le_trans (Nat.mul_le_mul hysl (show (1 + x.fmod 2).toNat ≤ 2 by omega)) (by decide)) ?_
      intro DM h₇ F₇ N₇ hDM hms _ _ _ _ _
      clear F₆ N₆
      ((repeat' (first | walk_at "use" | walk_at "cutx" | (k_unfold; try dsimp only) | ((with_reducible show wpAny _ _ (eval (Expr.Name _ _) (compEnvC _ _ _ _)) _ _ _); first | refine ld_blt (by k_asm) (by k_asm) (by with_reducible assumption) (by k_is) (by boot_by_name) (by decide) ?_ | refine ld_glb (by k_asm) (by k_asm) (by with_reducible assumption) (by k_is) ?_) | ((fail_if_success (with_reducible (refine stopAt ?_ ?_; rotate_left; first | exact s26 | exact s1 | exact s2 | exact s3 | exact s4 | exact s5 | exact s16 | exact s6 | exact s8 | exact s11 | exact s12 | exact s25 | exact s23 | exact s24 | exact s9 | exact s10 | exact s7))); (fail_if_success (with_reducible first | show wpAny _ _ (binaryOp Operator.FloorDiv _ (Value.int (HPow.hPow _ _) _)) _ _ _ | show LCg.CompSrc _ _ _ _ _ _ _ _ _ _ _ _ _ _ | show LCt.CompSrcT _ _ _ _ _ _ _ _ _ _ _ _ _ _ _ | show LCp.SrcLP _ _ _ _ _ _ _ _ _ _ _ _ _ _ _ | show LCg.CompEnd _ _ _ _ _ _ _ _ _ _ _ _ _ _)); first | walk1 | (dsimp only; walk1)))); walk_at "kend")
      refine KBa.make_K F₇ N₇ (by rfl) (News.isList N₇ (.head _)) hms (fun k hk => ?_) (by rw [KM.len_rep]; exact Nat.le_trans (Nat.mul_le_mul hrl (show (1 + x.fmod 2).toNat ≤ 2 by omega)) (by decide)) ?_
      · obtain ⟨l, hl, hk⟩ := List.mem_flatten.mp hk
        rw [List.eq_of_mem_replicate hl] at hk
        obtain ⟨j, _, rfl⟩ := List.mem_map.mp hk
        exact digitF_in x j
      intro h₈ t₈ k₈ F₈ N₈ _
      replace N₈ : News g L h₈ ((LB, listOf its.toArray n) :: (L + 1, oX') :: (196, tabObj #[]) :: own) := fun p hp => N₈ p (.tail _ (.tail _ hp))
      clear F₇ N₇
      ((repeat' (first | walk_at "use" | walk_at "cutx" | (k_unfold; try dsimp only) | ((with_reducible show wpAny _ _ (eval (Expr.Name _ _) (compEnvC _ _ _ _)) _ _ _); first | refine ld_blt (by k_asm) (by k_asm) (by with_reducible assumption) (by k_is) (by boot_by_name) (by decide) ?_ | refine ld_glb (by k_asm) (by k_asm) (by with_reducible assumption) (by k_is) ?_) | ((fail_if_success (with_reducible (refine stopAt ?_ ?_; rotate_left; first | exact s26 | exact s1 | exact s2 | exact s3 | exact s4 | exact s5 | exact s16 | exact s6 | exact s8 | exact s11 | exact s12 | exact s25 | exact s23 | exact s24 | exact s9 | exact s10 | exact s7))); (fail_if_success (with_reducible first | show wpAny _ _ (binaryOp Operator.FloorDiv _ (Value.int (HPow.hPow _ _) _)) _ _ _ | show LCg.CompSrc _ _ _ _ _ _ _ _ _ _ _ _ _ _ | show LCt.CompSrcT _ _ _ _ _ _ _ _ _ _ _ _ _ _ _ | show LCp.SrcLP _ _ _ _ _ _ _ _ _ _ _ _ _ _ _ | show LCg.CompEnd _ _ _ _ _ _ _ _ _ _ _ _ _ _)); first | walk1 | (dsimp only; walk1)))); walk_at "kend")
      have hil : its.length ≤ 4 := by
        rw [hits.length]
        unfold bagF
        simp; omega
      refine append_K (by k_asm) (by k_asm) (Upd.head fun q hq => ?_) ?_ (by rw [List.size_toArray, sizeLine_eq]; omega)
      · (revert q; refine fmc ?_ fun q hq => ?_)
        · exact Nat.ne_of_lt hlB.2.2.1
        · (revert q; refine fmc ?_ fun q hq => ?_)
          · exact Nat.ne_of_lt hlB.2.2.2
          · rcases hown q hq with e | e
            · rw [e]; exact Nat.ne_of_gt (Heap.lt_size (N₃ _ (.head _)).1)
            · rw [e]; exact Nat.ne_of_lt hlB.2.1
      intro h₉ F₉ N₉
      rw [List.push_toArray] at N₉
      ((repeat' (first | walk_at "use" | walk_at "cutx" | (k_unfold; try dsimp only) | ((with_reducible show wpAny _ _ (eval (Expr.Name _ _) (compEnvC _ _ _ _)) _ _ _); first | refine ld_blt (by k_asm) (by k_asm) (by with_reducible assumption) (by k_is) (by boot_by_name) (by decide) ?_ | refine ld_glb (by k_asm) (by k_asm) (by with_reducible assumption) (by k_is) ?_) | ((fail_if_success (with_reducible (refine stopAt ?_ ?_; rotate_left; first | exact s26 | exact s1 | exact s2 | exact s3 | exact s4 | exact s5 | exact s16 | exact s6 | exact s8 | exact s11 | exact s12 | exact s25 | exact s23 | exact s24 | exact s9 | exact s10 | exact s7))); (fail_if_success (with_reducible first | show wpAny _ _ (binaryOp Operator.FloorDiv _ (Value.int (HPow.hPow _ _) _)) _ _ _ | show LCg.CompSrc _ _ _ _ _ _ _ _ _ _ _ _ _ _ | show LCt.CompSrcT _ _ _ _ _ _ _ _ _ _ _ _ _ _ _ | show LCp.SrcLP _ _ _ _ _ _ _ _ _ _ _ _ _ _ _ | show LCg.CompEnd _ _ _ _ _ _ _ _ _ _ _ _ _ _)); first | walk1 | (dsimp only; walk1)))); walk_at "kend")
      refine FEnd.mk' ⟨oX', its ++ [.bytes (rowN x).toArray t₈], n + 1⟩ F₉ (by (repeat' (first | exact fmn | refine fmc (@rfl (Option Value) (some _)) ?_))) N₉ ?_ ?_ ⟨⟨_, hxX'⟩, ?_⟩
      · intro p hp
        (revert p; refine fmc ?_ fun p hp => ?_)
        · exact .head _
        · (revert p; refine fmc ?_ fun p hp => ?_)
          · exact .tail _ (.head _)
          · (revert p; refine fms ?_); exact .tail _ (.tail _ (.head _))
      · intro p hp; exact .tail _ (.tail _ (.tail _ hp))
      · have e : bagF (ns.take (i + 1)) = bagF (ns.take i) ++ [rowN x] := by
          unfold bagF
          rw [List.take_add_one, hni, List.map_append]
          rfl
        rw [e]
        exact hits.snoc _ _
  · rintro ⟨oX', its, n⟩ u h₄ tk₄
    refine ela14 fun hxX hits => ?_
    rintro F₄ N₄
    dsimp only [kstB] at hxX hits F₄ N₄ ⊢
    rw [List.take_of_length_le (by omega)] at hits
    ((repeat' (first | walk_at "use" | walk_at "cutx" | (k_unfold; try dsimp only) | ((with_reducible show wpAny _ _ (eval (Expr.Name _ _) (compEnvC _ _ _ _)) _ _ _); first | refine ld_blt (by k_asm) (by k_asm) (by with_reducible assumption) (by k_is) (by boot_by_name) (by decide) ?_ | refine ld_glb (by k_asm) (by k_asm) (by with_reducible assumption) (by k_is) ?_) | ((fail_if_success (with_reducible (refine stopAt ?_ ?_; rotate_left; first | exact s26 | exact s1 | exact s2 | exact s3 | exact s4 | exact s5 | exact s16 | exact s6 | exact s8 | exact s11 | exact s12 | exact s25 | exact s23 | exact s24 | exact s9 | exact s10 | exact s7))); (fail_if_success (with_reducible first | show wpAny _ _ (binaryOp Operator.FloorDiv _ (Value.int (HPow.hPow _ _) _)) _ _ _ | show LCg.CompSrc _ _ _ _ _ _ _ _ _ _ _ _ _ _ | show LCt.CompSrcT _ _ _ _ _ _ _ _ _ _ _ _ _ _ _ | show LCp.SrcLP _ _ _ _ _ _ _ _ _ _ _ _ _ _ _ | show LCg.CompEnd _ _ _ _ _ _ _ _ _ _ _ _ _ _)); first | walk1 | (dsimp only; walk1)))); walk_at "kend")
    have P := plain_ok ns hnl
    have hbl : (bagF ns).length ≤ 4 := by unfold bagF; simp; omega
    clear hI3 hwl zN N₃ F₃
    generalize bagF ns = bag at P hits hbl
    generalize (altF ns.sum).1 = x at P F₄
    generalize (altF ns.sum).2 = y at P F₄
    generalize ns.sum = total at P F₄
    have hil : its.length = bag.length := hits.length
    refine LCg.ListComp_U (F₀ := F₄) (by rfl) (by decide) (by rfl) (by decide) (by rfl) ?_
    ((repeat' (first | walk_at "use" | walk_at "cutx" | (k_unfold; try dsimp only) | ((with_reducible show wpAny _ _ (eval (Expr.Name _ _) (compEnvC _ _ _ _)) _ _ _); first | refine ld_blt (by k_asm) (by k_asm) (by with_reducible assumption) (by k_is) (by boot_by_name) (by decide) ?_ | refine ld_glb (by k_asm) (by k_asm) (by with_reducible assumption) (by k_is) ?_) | ((fail_if_success (with_reducible (refine stopAt ?_ ?_; rotate_left; first | exact s26 | exact s1 | exact s2 | exact s3 | exact s4 | exact s5 | exact s16 | exact s6 | exact s8 | exact s11 | exact s12 | exact s25 | exact s23 | exact s24 | exact s9 | exact s10 | exact s7))); (fail_if_success (with_reducible first | show wpAny _ _ (binaryOp Operator.FloorDiv _ (Value.int (HPow.hPow _ _) _)) _ _ _ | show LCg.CompSrc _ _ _ _ _ _ _ _ _ _ _ _ _ _ | show LCt.CompSrcT _ _ _ _ _ _ _ _ _ _ _ _ _ _ _ | show LCp.SrcLP _ _ _ _ _ _ _ _ _ _ _ _ _ _ _ | show LCg.CompEnd _ _ _ _ _ _ _ _ _ _ _ _ _ _)); first | walk1 | (dsimp only; walk1)))); walk_at "kend")
    refine LCg.CompSrc.ledger (by rfl) F₄ N₄ (.head _) (by rw [List.size_toArray, sizeLine_eq]; omega) ?_
    intro g'
    refine compRest_of (fun i ys news => news = [(LB, listOf its.toArray n), (L + 1, oX'), (196, tabObj #[])] ∧ IntsAre ys ((bag.take i).map fun r => (r.length : Int))) ⟨rfl, .nil⟩ ?_ ?_
    · rintro i ys news v I oI C oC D m₂ h₅ tk₅ E' hi ⟨rfl, hys⟩ hvi hoC hm₂ F₅ N₅ hoff hne
      have hi' : i < bag.length := by rw [List.size_toArray] at hi; omega
      have hri : bag[i]? = some bag[i] := by simp
      obtain ⟨t, e⟩ := hits.get i bag[i] hri
      generalize bag[i] = row at hri e
      have hv : v = .bytes row.toArray t := by
        have hvi : its[i]? = some v := by simpa using hvi
        rw [e] at hvi; exact (Option.some.inj hvi).symm
      subst hv
      simp only [LCg.Off3] at hoff
      dsimp only
      have hrl := (P.ne row (List.mem_of_getElem? hri)).2
      ((repeat' (first | walk_at "use" | walk_at "cutx" | (k_unfold; try dsimp only) | ((with_reducible show wpAny _ _ (eval (Expr.Name _ _) (compEnvC _ _ _ _)) _ _ _); first | refine ld_blt (by k_asm) (by k_asm) (by with_reducible assumption) (by k_is) (by boot_by_name) (by decide) ?_ | refine ld_glb (by k_asm) (by k_asm) (by with_reducible assumption) (by k_is) ?_) | ((fail_if_success (with_reducible (refine stopAt ?_ ?_; rotate_left; first | exact s26 | exact s1 | exact s2 | exact s3 | exact s4 | exact s5 | exact s16 | exact s6 | exact s8 | exact s11 | exact s12 | exact s25 | exact s23 | exact s24 | exact s9 | exact s10 | exact s7))); (fail_if_success (with_reducible first | show wpAny _ _ (binaryOp Operator.FloorDiv _ (Value.int (HPow.hPow _ _) _)) _ _ _ | show LCg.CompSrc _ _ _ _ _ _ _ _ _ _ _ _ _ _ | show LCt.CompSrcT _ _ _ _ _ _ _ _ _ _ _ _ _ _ _ | show LCp.SrcLP _ _ _ _ _ _ _ _ _ _ _ _ _ _ _ | show LCg.CompEnd _ _ _ _ _ _ _ _ _ _ _ _ _ _)); first | walk1 | (dsimp only; walk1)))); walk_at "kend")
      refine CompEnd.mk' F₅ N₅ hoff (.inr ⟨_, .head _, rfl, _, rfl⟩) ⟨rfl, ?_⟩
      rw [List.take_add_one, hri, List.map_append]
      refine hys.append ?_
      simp only [List.size_toArray]
      exact .cons _ _ .nil
    · rintro ys news ⟨rfl, hys⟩
      rw [List.size_toArray, List.take_of_length_le (by omega)] at hys
      dsimp only
      (((repeat' (first | (walk_at "use") | (walk_at "cutx") | (k_unfold; (try dsimp only)) | ((fail_if_success (with_reducible show wpAny _ _ (call (Value.builtin "sum") _ _) _ _ _)); ((fail_if_success (with_reducible (refine stopAt ?_ ?_; rotate_left; first | exact s26 | exact s1 | exact s2 | exact s3 | exact s4 | exact s5 | exact s16 | exact s6 | exact s8 | exact s11 | exact s12 | exact s25 | exact s23 | exact s24 | exact s9 | exact s10 | exact s7))); (fail_if_success (with_reducible first | show wpAny _ _ (binaryOp Operator.FloorDiv _ (Value.int (HPow.hPow _ _) _)) _ _ _ | show LCg.CompSrc _ _ _ _ _ _ _ _ _ _ _ _ _ _ | show LCt.CompSrcT _ _ _ _ _ _ _ _ _ _ _ _ _ _ _ | show LCp.SrcLP _ _ _ _ _ _ _ _ _ _ _ _ _ _ _ | show LCg.CompEnd _ _ _ _ _ _ _ _ _ _ _ _ _ _))); first | walk1 | (dsimp only; walk1)) | fail "no step")); (all_goals (try walk_at "cut")); (all_goals (try dsimp only))))
      rename Fr _ _ _ _ => F₅
      rename News _ _ _ _ => N₅
      refine sumK (by rfl) F₅ N₅ (News.isList N₅ (.head _)) hys ?_
      intro h₆ tk₆ tz F₆ N₆
      have hsz : (bag.map fun r => (r.length : Int)).sum = (sizeF bag : Int) := sum_cast bag
      rw [hsz]
      replace N₆ : News g L h₆ ([(LB, listOf its.toArray n), (L + 1, oX')] ++ (196, tabObj #[]) :: []) := fun p hp => N₆ p (.tail _ hp)
      clear F₅ N₅ F₄ N₄
      ((repeat' (first | walk_at "use" | walk_at "cutx" | (k_unfold; try dsimp only) | ((with_reducible show wpAny _ _ (eval (Expr.Name _ _) (compEnvC _ _ _ _)) _ _ _); first | refine ld_blt (by k_asm) (by k_asm) (by with_reducible assumption) (by k_is) (by boot_by_name) (by decide) ?_ | refine ld_glb (by k_asm) (by k_asm) (by with_reducible assumption) (by k_is) ?_) | ((fail_if_success (with_reducible (refine stopAt ?_ ?_; rotate_left; first | exact s26 | exact s1 | exact s2 | exact s3 | exact s4 | exact s5 | exact s16 | exact s6 | exact s8 | exact s11 | exact s12 | exact s25 | exact s23 | exact s24 | exact s9 | exact s10 | exact s7))); (fail_if_success (with_reducible first | show wpAny _ _ (binaryOp Operator.FloorDiv _ (Value.int (HPow.hPow _ _) _)) _ _ _ | show LCg.CompSrc _ _ _ _ _ _ _ _ _ _ _ _ _ _ | show LCt.CompSrcT _ _ _ _ _ _ _ _ _ _ _ _ _ _ _ | show LCp.SrcLP _ _ _ _ _ _ _ _ _ _ _ _ _ _ _ | show LCg.CompEnd _ _ _ _ _ _ _ _ _ _ _ _ _ _)); first | walk1 | (dsimp only; walk1)))); walk_at "kend")
      rename Fr _ _ _ _ => F₇
      rename News _ _ _ _ => N₇
      rename_i h₇ _ _ _ _
      have how : ∀ q ∈ [(LB, listOf its.toArray n), (L + 1, oX')], q.1 ≠ 196 := by
        intro q hq
        (revert q; refine fmc ?_ fun q hq => ?_)
        · exact Nat.ne_of_gt hlB.2.2.2
        · (revert q; refine fms ?_); exact Nat.ne_of_gt (Nat.lt_succ_of_lt h196)
      refine wpAny_call (heard_step X T Tp F₇ N₇ (.inl ⟨rfl, rfl⟩) h196 how (by decide) (by decide) (.head _) (fun _ q => nomatch q) hits P.rows (by omega) P.lex ?_)
      intro h₈ tk₈ ps₁ cs₁ LR vsR nR F₈ N₈ hT₁ hvR
      dsimp only
      replace N₈ : News g L h₈ ((LR, listOf vsR.toArray nR) :: (LB, listOf its.toArray n) :: (L + 1, oX') :: (196, tabObj ps₁) :: cs₁) := N₈
      clear F₇ N₇
      ((repeat' (first | walk_at "use" | walk_at "cutx" | (k_unfold; try dsimp only) | ((with_reducible show wpAny _ _ (eval (Expr.Name _ _) (compEnvC _ _ _ _)) _ _ _); first | refine ld_blt (by k_asm) (by k_asm) (by with_reducible assumption) (by k_is) (by boot_by_name) (by decide) ?_ | refine ld_glb (by k_asm) (by k_asm) (by with_reducible assumption) (by k_is) ?_) | ((fail_if_success (with_reducible (refine stopAt ?_ ?_; rotate_left; first | exact s26 | exact s1 | exact s2 | exact s3 | exact s4 | exact s5 | exact s16 | exact s6 | exact s8 | exact s11 | exact s12 | exact s25 | exact s23 | exact s24 | exact s9 | exact s10 | exact s7))); (fail_if_success (with_reducible first | show wpAny _ _ (binaryOp Operator.FloorDiv _ (Value.int (HPow.hPow _ _) _)) _ _ _ | show LCg.CompSrc _ _ _ _ _ _ _ _ _ _ _ _ _ _ | show LCt.CompSrcT _ _ _ _ _ _ _ _ _ _ _ _ _ _ _ | show LCp.SrcLP _ _ _ _ _ _ _ _ _ _ _ _ _ _ _ | show LCg.CompEnd _ _ _ _ _ _ _ _ _ _ _ _ _ _)); first | walk1 | (dsimp only; walk1)))); walk_at "kend")
      rename Fr _ _ _ _ => F₉
      rename News _ _ _ _ => N₉
      refine ne_bytsL (News.isList N₉ (.head _)) (News.isList N₉ (.tail _ (.head _))) hvR hits (by k_units) ?_
      rw [show (!decide (bag = bag)) = false by simp]
      ((repeat' (first | walk_at "use" | walk_at "cutx" | (k_unfold; try dsimp only) | ((with_reducible show wpAny _ _ (eval (Expr.Name _ _) (compEnvC _ _ _ _)) _ _ _); first | refine ld_blt (by k_asm) (by k_asm) (by with_reducible assumption) (by k_is) (by boot_by_name) (by decide) ?_ | refine ld_glb (by k_asm) (by k_asm) (by with_reducible assumption) (by k_is) ?_) | ((fail_if_success (with_reducible (refine stopAt ?_ ?_; rotate_left; first | exact s26 | exact s1 | exact s2 | exact s3 | exact s4 | exact s5 | exact s16 | exact s6 | exact s8 | exact s11 | exact s12 | exact s25 | exact s23 | exact s24 | exact s9 | exact s10 | exact s7))); (fail_if_success (with_reducible first | show wpAny _ _ (binaryOp Operator.FloorDiv _ (Value.int (HPow.hPow _ _) _)) _ _ _ | show LCg.CompSrc _ _ _ _ _ _ _ _ _ _ _ _ _ _ | show LCt.CompSrcT _ _ _ _ _ _ _ _ _ _ _ _ _ _ _ | show LCp.SrcLP _ _ _ _ _ _ _ _ _ _ _ _ _ _ _ | show LCg.CompEnd _ _ _ _ _ _ _ _ _ _ _ _ _ _)); first | walk1 | (dsimp only; walk1)))); walk_at "kend")
      refine wpAny_call (column_call (at_of (ws := []) X T F₉ N₉ (fun _ hq => nomatch hq)) (by decide) (by decide) (News.isList N₉ (.head _)) hvR (by rw [P.keys]; have := P.size; omega) (fun r hr => ⟨(P.ne r hr).1, Nat.le_trans (P.ne r hr).2 (by decide)⟩) (by have := P.size; omega) (Nat.le_of_eq P.keys.symm) ?_)
      intro h₁₀ tk₁₀ LC vsC nC K₁₀ e0C eC hvC
      dsimp only at K₁₀ e0C eC ⊢
      obtain ⟨F₁₀, N₁₀⟩ := news_new F₉ N₉ K₁₀ e0C eC
      have hC196 : LC ≠ 196 := fun e => by rw [e] at e0C; rw [(N₉ _ (.tail _ (.tail _ (.tail _ (.head _))))).1] at e0C; cases e0C
      clear F₉ N₉
      ((repeat' (first | walk_at "use" | walk_at "cutx" | (k_unfold; try dsimp only) | ((with_reducible show wpAny _ _ (eval (Expr.Name _ _) (compEnvC _ _ _ _)) _ _ _); first | refine ld_blt (by k_asm) (by k_asm) (by with_reducible assumption) (by k_is) (by boot_by_name) (by decide) ?_ | refine ld_glb (by k_asm) (by k_asm) (by with_reducible assumption) (by k_is) ?_) | ((fail_if_success (with_reducible (refine stopAt ?_ ?_; rotate_left; first | exact s26 | exact s1 | exact s2 | exact s3 | exact s4 | exact s5 | exact s16 | exact s6 | exact s8 | exact s11 | exact s12 | exact s25 | exact s23 | exact s24 | exact s9 | exact s10 | exact s7))); (fail_if_success (with_reducible first | show wpAny _ _ (binaryOp Operator.FloorDiv _ (Value.int (HPow.hPow _ _) _)) _ _ _ | show LCg.CompSrc _ _ _ _ _ _ _ _ _ _ _ _ _ _ | show LCt.CompSrcT _ _ _ _ _ _ _ _ _ _ _ _ _ _ _ | show LCp.SrcLP _ _ _ _ _ _ _ _ _ _ _ _ _ _ _ | show LCg.CompEnd _ _ _ _ _ _ _ _ _ _ _ _ _ _)); first | walk1 | (dsimp only; walk1)))); walk_at "kend")
      rename Fr _ _ _ _ => F₁₁
      rename News _ _ _ _ => N₁₁
      have hcl : (columnF bag (sizeF bag)).length < 1000 := by rw [P.col.1]; have := P.size; omega
      refine wpAny_call (rings_call (at_of (ws := []) X T F₁₁ N₁₁ (fun _ hq => nomatch hq)) (by decide) (by decide) (News.isList N₁₁ (.head _)) hvC hcl P.col.2 ?_)
      intro h₁₂ tk₁₂ LG vsG nG K₁₂ e0G eG hvG
      dsimp only at K₁₂ e0G eG ⊢
      obtain ⟨F₁₂, N₁₂⟩ := news_new F₁₁ N₁₁ K₁₂ e0G eG
      clear F₁₁ N₁₁
      ((repeat' (first | walk_at "use" | walk_at "cutx" | (k_unfold; try dsimp only) | ((with_reducible show wpAny _ _ (eval (Expr.Name _ _) (compEnvC _ _ _ _)) _ _ _); first | refine ld_blt (by k_asm) (by k_asm) (by with_reducible assumption) (by k_is) (by boot_by_name) (by decide) ?_ | refine ld_glb (by k_asm) (by k_asm) (by with_reducible assumption) (by k_is) ?_) | ((fail_if_success (with_reducible (refine stopAt ?_ ?_; rotate_left; first | exact s26 | exact s1 | exact s2 | exact s3 | exact s4 | exact s5 | exact s16 | exact s6 | exact s8 | exact s11 | exact s12 | exact s25 | exact s23 | exact s24 | exact s9 | exact s10 | exact s7))); (fail_if_success (with_reducible first | show wpAny _ _ (binaryOp Operator.FloorDiv _ (Value.int (HPow.hPow _ _) _)) _ _ _ | show LCg.CompSrc _ _ _ _ _ _ _ _ _ _ _ _ _ _ | show LCt.CompSrcT _ _ _ _ _ _ _ _ _ _ _ _ _ _ _ | show LCp.SrcLP _ _ _ _ _ _ _ _ _ _ _ _ _ _ _ | show LCg.CompEnd _ _ _ _ _ _ _ _ _ _ _ _ _ _)); first | walk1 | (dsimp only; walk1)))); walk_at "kend")
      rename Fr _ _ _ _ => F₁₃
      rename News _ _ _ _ => N₁₃
      refine wpAny_call (told_call (at_of (ws := []) X T F₁₃ N₁₃ (fun _ hq => nomatch hq)) (by decide) (by decide) (News.isList N₁₃ (.tail _ (.tail _ (.tail _ (.head _))))) hits P.ne (by have := P.size; omega) P.told.1 P.told.2 ?_)
      intro h₁₄ tk₁₄ LT vsT nT Tl K₁₄ e0T eT hvT hTp hTs
      dsimp only at K₁₄ e0T eT ⊢
      obtain ⟨F₁₄, N₁₄⟩ := news_new F₁₃ N₁₃ K₁₄ e0T eT
      clear F₁₃ N₁₃
      ((repeat' (first | walk_at "use" | walk_at "cutx" | (k_unfold; try dsimp only) | ((with_reducible show wpAny _ _ (eval (Expr.Name _ _) (compEnvC _ _ _ _)) _ _ _); first | refine ld_blt (by k_asm) (by k_asm) (by with_reducible assumption) (by k_is) (by boot_by_name) (by decide) ?_ | refine ld_glb (by k_asm) (by k_asm) (by with_reducible assumption) (by k_is) ?_) | ((fail_if_success (with_reducible (refine stopAt ?_ ?_; rotate_left; first | exact s26 | exact s1 | exact s2 | exact s3 | exact s4 | exact s5 | exact s16 | exact s6 | exact s8 | exact s11 | exact s12 | exact s25 | exact s23 | exact s24 | exact s9 | exact s10 | exact s7))); (fail_if_success (with_reducible first | show wpAny _ _ (binaryOp Operator.FloorDiv _ (Value.int (HPow.hPow _ _) _)) _ _ _ | show LCg.CompSrc _ _ _ _ _ _ _ _ _ _ _ _ _ _ | show LCt.CompSrcT _ _ _ _ _ _ _ _ _ _ _ _ _ _ _ | show LCp.SrcLP _ _ _ _ _ _ _ _ _ _ _ _ _ _ _ | show LCg.CompEnd _ _ _ _ _ _ _ _ _ _ _ _ _ _)); first | walk1 | (dsimp only; walk1)))); walk_at "kend")
      rename Fr _ _ _ _ => F₁₅
      rename News _ _ _ _ => N₁₅
      refine ne_bytsL (News.isList N₁₅ (.tail _ (.head _))) (News.isList N₁₅ (.head _)) hvG hvT (by k_units) ?_
      rw [P.rings Tl hTp hTs, show (!decide (Tl = Tl)) = false by simp]
      have hrE : ringsF (columnF bag (sizeF bag)) = Tl := P.rings Tl hTp hTs
      ((repeat' (first | walk_at "use" | walk_at "cutx" | (k_unfold; try dsimp only) | ((with_reducible show wpAny _ _ (eval (Expr.Name _ _) (compEnvC _ _ _ _)) _ _ _); first | refine ld_blt (by k_asm) (by k_asm) (by with_reducible assumption) (by k_is) (by boot_by_name) (by decide) ?_ | refine ld_glb (by k_asm) (by k_asm) (by with_reducible assumption) (by k_is) ?_) | ((fail_if_success (with_reducible (refine stopAt ?_ ?_; rotate_left; first | exact s26 | exact s1 | exact s2 | exact s3 | exact s4 | exact s5 | exact s16 | exact s6 | exact s8 | exact s11 | exact s12 | exact s25 | exact s23 | exact s24 | exact s9 | exact s10 | exact s7))); (fail_if_success (with_reducible first | show wpAny _ _ (binaryOp Operator.FloorDiv _ (Value.int (HPow.hPow _ _) _)) _ _ _ | show LCg.CompSrc _ _ _ _ _ _ _ _ _ _ _ _ _ _ | show LCt.CompSrcT _ _ _ _ _ _ _ _ _ _ _ _ _ _ _ | show LCp.SrcLP _ _ _ _ _ _ _ _ _ _ _ _ _ _ _ | show LCg.CompEnd _ _ _ _ _ _ _ _ _ _ _ _ _ _)); first | walk1 | (dsimp only; walk1)))); walk_at "kend")
      rename Fr _ _ _ _ => F₁₆
      rename News _ _ _ _ => N₁₆
      rename_i LU _ hlU h₁₆ _ _
      have hTn : Tl.length ≤ 64 := by rw [← hrE]; exact P.ringN
      rw [hrE] at hvG
      have hGl : vsG.length = Tl.length := hvG.length
      have hTok : ∀ r ∈ Tl, r ≠ [] ∧ r.length ≤ 6 := by rw [← hrE]; exact P.ringOk
      have htl : (turnedF total Tl).length = Tl.length := by simp [turnedF]
      replace N₁₆ : News g L h₁₆ ((LU, listOf ([] : List Value).toArray 0) :: (LG, listOf vsG.toArray nG) :: (LC, listOf vsC.toArray nC) :: (196, tabObj ps₁) :: cs₁) := by
        intro p hp
        refine N₁₆ p ?_
        (revert p; refine fmc ?_ fun p hp => ?_)
        · exact .head _
        · (revert p; refine fmc ?_ fun p hp => ?_)
          · exact .tail _ (.tail _ (.head _))
          · (revert p; refine fmc ?_ fun p hp => ?_)
            · exact .tail _ (.tail _ (.tail _ (.head _)))
            · exact .tail _ (.tail _ (.tail _ (.tail _ (.tail _ (.tail _ (.tail _ hp))))))
      refine wpAny_For ?_
      ((repeat' (first | walk_at "use" | walk_at "cutx" | (k_unfold; try dsimp only) | ((with_reducible show wpAny _ _ (eval (Expr.Name _ _) (compEnvC _ _ _ _)) _ _ _); first | refine ld_blt (by k_asm) (by k_asm) (by with_reducible assumption) (by k_is) (by boot_by_name) (by decide) ?_ | refine ld_glb (by k_asm) (by k_asm) (by with_reducible assumption) (by k_is) ?_) | ((fail_if_success (with_reducible (refine stopAt ?_ ?_; rotate_left; first | exact s26 | exact s1 | exact s2 | exact s3 | exact s4 | exact s5 | exact s16 | exact s6 | exact s8 | exact s11 | exact s12 | exact s25 | exact s23 | exact s24 | exact s9 | exact s10 | exact s7))); (fail_if_success (with_reducible first | show wpAny _ _ (binaryOp Operator.FloorDiv _ (Value.int (HPow.hPow _ _) _)) _ _ _ | show LCg.CompSrc _ _ _ _ _ _ _ _ _ _ _ _ _ _ | show LCt.CompSrcT _ _ _ _ _ _ _ _ _ _ _ _ _ _ _ | show LCp.SrcLP _ _ _ _ _ _ _ _ _ _ _ _ _ _ _ | show LCg.CompEnd _ _ _ _ _ _ _ _ _ _ _ _ _ _)); first | walk1 | (dsimp only; walk1)))); walk_at "kend")
      refine len_ N₁₆ (.tail _ (.head _)) (by omega) ?_
      intro tl₁ tk₁₇
      ((repeat' (first | walk_at "use" | walk_at "cutx" | (k_unfold; try dsimp only) | ((with_reducible show wpAny _ _ (eval (Expr.Name _ _) (compEnvC _ _ _ _)) _ _ _); first | refine ld_blt (by k_asm) (by k_asm) (by with_reducible assumption) (by k_is) (by boot_by_name) (by decide) ?_ | refine ld_glb (by k_asm) (by k_asm) (by with_reducible assumption) (by k_is) ?_) | ((fail_if_success (with_reducible (refine stopAt ?_ ?_; rotate_left; first | exact s26 | exact s1 | exact s2 | exact s3 | exact s4 | exact s5 | exact s16 | exact s6 | exact s8 | exact s11 | exact s12 | exact s25 | exact s23 | exact s24 | exact s9 | exact s10 | exact s7))); (fail_if_success (with_reducible first | show wpAny _ _ (binaryOp Operator.FloorDiv _ (Value.int (HPow.hPow _ _) _)) _ _ _ | show LCg.CompSrc _ _ _ _ _ _ _ _ _ _ _ _ _ _ | show LCt.CompSrcT _ _ _ _ _ _ _ _ _ _ _ _ _ _ _ | show LCp.SrcLP _ _ _ _ _ _ _ _ _ _ _ _ _ _ _ | show LCg.CompEnd _ _ _ _ _ _ _ _ _ _ _ _ _ _)); first | walk1 | (dsimp only; walk1)))); walk_at "kend")
      rename IsRange _ _ _ _ _ _ _ _ => hr
      rename Fr _ _ _ _ => F₁₇
      rename News _ _ _ _ => N₁₇
      rename_i h₁₇ _ _ _ _ _
      rw [hGl] at hr
      have hI17 : LU < h₁₇.objs.size := Heap.lt_size (N₁₇ _ (.head _)).1
      refine for_range (σ := List Value × Nat) (by rfl) hr (by omega) (fun _ _ => [("rings", .ref LG), ("turned", .ref LU), ("total", .int total tt), ("altchars", .bytes #[x, y] tp), ("size", .int (sizeF bag : Int) tz), ("column", .ref LC)])
        (fun _ c => (LU, listOf c.1.toArray c.2) :: (LG, listOf vsG.toArray nG) :: (LC, listOf vsC.toArray nC) :: (196, tabObj ps₁) :: cs₁)
        (fun k c => BytesAre c.1 ((turnedF total Tl).take k)) ([], 0) ?_ F₁₇ (by (repeat' (first | exact fmn | refine fmc (@rfl (Option Value) (some _)) ?_))) N₁₇ .nil ?_ ?_
      · rintro k c _ p hp
        (revert p; refine fmc ?_ fun p hp => ?_)
        · exact Nat.ne_of_lt (Heap.lt_size (N₁₇ _ (.head _)).1)
        · exact Nat.ne_of_lt (Heap.lt_size (N₁₇ p (.tail _ hp)).1)
      · rintro k ⟨itu, nu⟩ tk' u' h₁₈ tk₁₈ own hk hitu hown ⟨oI, hoI⟩ F₁₈ N₁₈
        dsimp only [kstB] at hitu F₁₈ N₁₈ ⊢
        replace N₁₈ : News g L h₁₈ ((LU, listOf itu.toArray nu) :: (LG, listOf vsG.toArray nG) :: (LC, listOf vsC.toArray nC) :: (196, tabObj ps₁) :: (cs₁ ++ own)) := N₁₈
        obtain ⟨ring, hring⟩ : ∃ ring, Tl[Tl.length - 1 - k]? = some ring := ⟨Tl[Tl.length - 1 - k]'(back_lt (by omega)), by simp⟩
        obtain ⟨tg, hvg⟩ := hvG.get _ _ hring
        obtain ⟨hrne, hrlen⟩ := hTok ring (List.mem_of_getElem? hring)
        have hrpos := List.length_pos_iff.mpr hrne
        ((repeat' (first | walk_at "use" | walk_at "cutx" | (k_unfold; try dsimp only) | ((with_reducible show wpAny _ _ (eval (Expr.Name _ _) (compEnvC _ _ _ _)) _ _ _); first | refine ld_blt (by k_asm) (by k_asm) (by with_reducible assumption) (by k_is) (by boot_by_name) (by decide) ?_ | refine ld_glb (by k_asm) (by k_asm) (by with_reducible assumption) (by k_is) ?_) | ((fail_if_success (with_reducible (refine stopAt ?_ ?_; rotate_left; first | exact s26 | exact s1 | exact s2 | exact s3 | exact s4 | exact s5 | exact s16 | exact s6 | exact s8 | exact s11 | exact s12 | exact s25 | exact s23 | exact s24 | exact s9 | exact s10 | exact s7))); (fail_if_success (with_reducible first | show wpAny _ _ (binaryOp Operator.FloorDiv _ (Value.int (HPow.hPow _ _) _)) _ _ _ | show LCg.CompSrc _ _ _ _ _ _ _ _ _ _ _ _ _ _ | show LCt.CompSrcT _ _ _ _ _ _ _ _ _ _ _ _ _ _ _ | show LCp.SrcLP _ _ _ _ _ _ _ _ _ _ _ _ _ _ _ | show LCg.CompEnd _ _ _ _ _ _ _ _ _ _ _ _ _ _)); first | walk1 | (dsimp only; walk1)))); walk_at "kend")
        rename News _ _ _ _ => N₁₉
        refine len_ N₁₉ (.tail _ (.head _)) (by omega) ?_
        intro tl₂ tk₁₉
        ((repeat' (first | walk_at "use" | walk_at "cutx" | (k_unfold; try dsimp only) | ((with_reducible show wpAny _ _ (eval (Expr.Name _ _) (compEnvC _ _ _ _)) _ _ _); first | refine ld_blt (by k_asm) (by k_asm) (by with_reducible assumption) (by k_is) (by boot_by_name) (by decide) ?_ | refine ld_glb (by k_asm) (by k_asm) (by with_reducible assumption) (by k_is) ?_) | ((fail_if_success (with_reducible (refine stopAt ?_ ?_; rotate_left; first | exact s26 | exact s1 | exact s2 | exact s3 | exact s4 | exact s5 | exact s16 | exact s6 | exact s8 | exact s11 | exact s12 | exact s25 | exact s23 | exact s24 | exact s9 | exact s10 | exact s7))); (fail_if_success (with_reducible first | show wpAny _ _ (binaryOp Operator.FloorDiv _ (Value.int (HPow.hPow _ _) _)) _ _ _ | show LCg.CompSrc _ _ _ _ _ _ _ _ _ _ _ _ _ _ | show LCt.CompSrcT _ _ _ _ _ _ _ _ _ _ _ _ _ _ _ | show LCp.SrcLP _ _ _ _ _ _ _ _ _ _ _ _ _ _ _ | show LCg.CompEnd _ _ _ _ _ _ _ _ _ _ _ _ _ _)); first | walk1 | (dsimp only; walk1)))); walk_at "kend")
        rename News _ _ _ _ => N₂₀
        refine item_ N₂₀ (.tail _ (.head _)) (by omega) (show vsG[((vsG.length : Int) - 1 - (k : Int)).toNat]? = some (Value.bytes ring.toArray tg) by rw [show ((vsG.length : Int) - 1 - (k : Int)).toNat = Tl.length - 1 - k from back_at (by omega) (by omega)]; exact hvg) (by omega) ?_
        ((repeat' (first | walk_at "use" | walk_at "cutx" | (k_unfold; try dsimp only) | ((with_reducible show wpAny _ _ (eval (Expr.Name _ _) (compEnvC _ _ _ _)) _ _ _); first | refine ld_blt (by k_asm) (by k_asm) (by with_reducible assumption) (by k_is) (by boot_by_name) (by decide) ?_ | refine ld_glb (by k_asm) (by k_asm) (by with_reducible assumption) (by k_is) ?_) | ((fail_if_success (with_reducible (refine stopAt ?_ ?_; rotate_left; first | exact s26 | exact s1 | exact s2 | exact s3 | exact s4 | exact s5 | exact s16 | exact s6 | exact s8 | exact s11 | exact s12 | exact s25 | exact s23 | exact s24 | exact s9 | exact s10 | exact s7))); (fail_if_success (with_reducible first | show wpAny _ _ (binaryOp Operator.FloorDiv _ (Value.int (HPow.hPow _ _) _)) _ _ _ | show LCg.CompSrc _ _ _ _ _ _ _ _ _ _ _ _ _ _ | show LCt.CompSrcT _ _ _ _ _ _ _ _ _ _ _ _ _ _ _ | show LCp.SrcLP _ _ _ _ _ _ _ _ _ _ _ _ _ _ _ | show LCg.CompEnd _ _ _ _ _ _ _ _ _ _ _ _ _ _)); first | walk1 | (dsimp only; walk1)))); walk_at "kend")
        obtain ⟨m, hm⟩ : ∃ m : Nat, (total + (k : Int)).fmod (ring.toArray.size : Int) = (m : Int) := ⟨_, (Int.toNat_of_nonneg (Int.fmod_nonneg_of_pos _ (by simp; omega))).symm⟩
        have hrot : ring.drop m ++ ring.take m = rotF (total + (k : Int)) ring := by
          unfold rotF
          rw [show (ring.length : Int) = (ring.toArray.size : Int) by simp, hm, Int.toNat_natCast]
        rename Fr _ _ _ _ => F₂₁
        rename News _ _ _ _ => N₂₁
        rw [hm] at F₂₁ ⊢
        refine bcut_from (s := ⟨_, _, _, _, _⟩) F₂₁ N₂₁ (by omega) ?_
        intro h₂₂ t₂₂ k₂₂ F₂₂ N₂₂
        clear F₂₁ N₂₁
        ((repeat' (first | walk_at "use" | walk_at "cutx" | (k_unfold; try dsimp only) | ((with_reducible show wpAny _ _ (eval (Expr.Name _ _) (compEnvC _ _ _ _)) _ _ _); first | refine ld_blt (by k_asm) (by k_asm) (by with_reducible assumption) (by k_is) (by boot_by_name) (by decide) ?_ | refine ld_glb (by k_asm) (by k_asm) (by with_reducible assumption) (by k_is) ?_) | ((fail_if_success (with_reducible (refine stopAt ?_ ?_; rotate_left; first | exact s26 | exact s1 | exact s2 | exact s3 | exact s4 | exact s5 | exact s16 | exact s6 | exact s8 | exact s11 | exact s12 | exact s25 | exact s23 | exact s24 | exact s9 | exact s10 | exact s7))); (fail_if_success (with_reducible first | show wpAny _ _ (binaryOp Operator.FloorDiv _ (Value.int (HPow.hPow _ _) _)) _ _ _ | show LCg.CompSrc _ _ _ _ _ _ _ _ _ _ _ _ _ _ | show LCt.CompSrcT _ _ _ _ _ _ _ _ _ _ _ _ _ _ _ | show LCp.SrcLP _ _ _ _ _ _ _ _ _ _ _ _ _ _ _ | show LCg.CompEnd _ _ _ _ _ _ _ _ _ _ _ _ _ _)); first | walk1 | (dsimp only; walk1)))); walk_at "kend")
        refine bcut_to (s := ⟨_, _, _, _, _⟩) F₂₂ N₂₂ (by omega) ?_
        intro h₂₃ t₂₃ k₂₃ F₂₃ N₂₃
        ((repeat' (first | walk_at "use" | walk_at "cutx" | (k_unfold; try dsimp only) | ((with_reducible show wpAny _ _ (eval (Expr.Name _ _) (compEnvC _ _ _ _)) _ _ _); first | refine ld_blt (by k_asm) (by k_asm) (by with_reducible assumption) (by k_is) (by boot_by_name) (by decide) ?_ | refine ld_glb (by k_asm) (by k_asm) (by with_reducible assumption) (by k_is) ?_) | ((fail_if_success (with_reducible (refine stopAt ?_ ?_; rotate_left; first | exact s26 | exact s1 | exact s2 | exact s3 | exact s4 | exact s5 | exact s16 | exact s6 | exact s8 | exact s11 | exact s12 | exact s25 | exact s23 | exact s24 | exact s9 | exact s10 | exact s7))); (fail_if_success (with_reducible first | show wpAny _ _ (binaryOp Operator.FloorDiv _ (Value.int (HPow.hPow _ _) _)) _ _ _ | show LCg.CompSrc _ _ _ _ _ _ _ _ _ _ _ _ _ _ | show LCt.CompSrcT _ _ _ _ _ _ _ _ _ _ _ _ _ _ _ | show LCp.SrcLP _ _ _ _ _ _ _ _ _ _ _ _ _ _ _ | show LCg.CompEnd _ _ _ _ _ _ _ _ _ _ _ _ _ _)); first | walk1 | (dsimp only; walk1)))); walk_at "kend")
        refine badd (by simp; omega) ?_
        intro t₂₄ k₂₄
        rw [hrot]
        ((repeat' (first | walk_at "use" | walk_at "cutx" | (k_unfold; try dsimp only) | ((with_reducible show wpAny _ _ (eval (Expr.Name _ _) (compEnvC _ _ _ _)) _ _ _); first | refine ld_blt (by k_asm) (by k_asm) (by with_reducible assumption) (by k_is) (by boot_by_name) (by decide) ?_ | refine ld_glb (by k_asm) (by k_asm) (by with_reducible assumption) (by k_is) ?_) | ((fail_if_success (with_reducible (refine stopAt ?_ ?_; rotate_left; first | exact s26 | exact s1 | exact s2 | exact s3 | exact s4 | exact s5 | exact s16 | exact s6 | exact s8 | exact s11 | exact s12 | exact s25 | exact s23 | exact s24 | exact s9 | exact s10 | exact s7))); (fail_if_success (with_reducible first | show wpAny _ _ (binaryOp Operator.FloorDiv _ (Value.int (HPow.hPow _ _) _)) _ _ _ | show LCg.CompSrc _ _ _ _ _ _ _ _ _ _ _ _ _ _ | show LCt.CompSrcT _ _ _ _ _ _ _ _ _ _ _ _ _ _ _ | show LCp.SrcLP _ _ _ _ _ _ _ _ _ _ _ _ _ _ _ | show LCg.CompEnd _ _ _ _ _ _ _ _ _ _ _ _ _ _)); first | walk1 | (dsimp only; walk1)))); walk_at "kend")
        have hul : itu.length ≤ 64 := by
          have := hitu.length
          have h2 : ((turnedF total Tl).take k).length ≤ (turnedF total Tl).length := List.length_take_le' _ _
          omega
        refine append_K F₂₃ N₂₃ (Upd.head fun q hq => ?_) ?_ (by rw [List.size_toArray, sizeLine_eq]; omega)
        · (revert q; refine fmc ?_ fun q hq => ?_)
          · exact Nat.ne_of_lt hlU.2.1
          · (revert q; refine fmc ?_ fun q hq => ?_)
            · exact Nat.ne_of_lt hlU.2.2.1
            · (revert q; refine fmc ?_ fun q hq => ?_)
              · exact Nat.ne_of_lt hlU.2.2.2.2.2.2.1
              · rcases List.mem_append.mp hq with hq | hq
                · exact Nat.ne_of_lt (allLt_mem hlU.2.2.2.2.2.2.2 q hq)
                · rw [hown q hq]; exact Nat.ne_of_gt hI17
        intro h₂₅ F₂₅ N₂₅
        rw [List.push_toArray] at N₂₅
        ((repeat' (first | walk_at "use" | walk_at "cutx" | (k_unfold; try dsimp only) | ((with_reducible show wpAny _ _ (eval (Expr.Name _ _) (compEnvC _ _ _ _)) _ _ _); first | refine ld_blt (by k_asm) (by k_asm) (by with_reducible assumption) (by k_is) (by boot_by_name) (by decide) ?_ | refine ld_glb (by k_asm) (by k_asm) (by with_reducible assumption) (by k_is) ?_) | ((fail_if_success (with_reducible (refine stopAt ?_ ?_; rotate_left; first | exact s26 | exact s1 | exact s2 | exact s3 | exact s4 | exact s5 | exact s16 | exact s6 | exact s8 | exact s11 | exact s12 | exact s25 | exact s23 | exact s24 | exact s9 | exact s10 | exact s7))); (fail_if_success (with_reducible first | show wpAny _ _ (binaryOp Operator.FloorDiv _ (Value.int (HPow.hPow _ _) _)) _ _ _ | show LCg.CompSrc _ _ _ _ _ _ _ _ _ _ _ _ _ _ | show LCt.CompSrcT _ _ _ _ _ _ _ _ _ _ _ _ _ _ _ | show LCp.SrcLP _ _ _ _ _ _ _ _ _ _ _ _ _ _ _ | show LCg.CompEnd _ _ _ _ _ _ _ _ _ _ _ _ _ _)); first | walk1 | (dsimp only; walk1)))); walk_at "kend")
        refine FEnd.mk' (itu ++ [.bytes (rotF (total + (k : Int)) ring).toArray t₂₄], nu + 1) F₂₅ (by (repeat' (first | exact fmn | refine fmc (@rfl (Option Value) (some _)) ?_))) N₂₅ ?_ ?_ ?_
        · intro p hp
          (revert p; refine fmc ?_ fun p hp => ?_)
          · exact .head _
          · (revert p; refine fmc ?_ fun p hp => ?_)
            · exact .tail _ (.head _)
            · (revert p; refine fmc ?_ fun p hp => ?_)
              · exact .tail _ (.tail _ (.head _))
              · (revert p; refine fmc ?_ fun p hp => ?_)
                · exact .tail _ (.tail _ (.tail _ (.head _)))
                · exact .tail _ (.tail _ (.tail _ (.tail _ (List.mem_append_left _ hp))))
        · intro p hp; exact .tail _ (.tail _ (.tail _ (.tail _ (List.mem_append_right _ hp))))
        · show BytesAre _ ((turnedF total Tl).take (k + 1))
          have e : (turnedF total Tl)[k]? = some (rotF (total + (k : Int)) ring) := by
            unfold turnedF
            rw [List.getElem?_map, List.getElem?_range hk]
            simp only [Option.map_some]
            rw [List.getD_eq_getElem?_getD, hring]
            rfl
          rw [List.take_add_one, e]
          exact hitu.snoc _ _
      · rintro ⟨itu, nu⟩ u' h₁₈ tk₁₈ hitu F₁₈ N₁₈
        dsimp only [kstB] at hitu F₁₈ N₁₈ ⊢
        rw [List.take_of_length_le (by omega)] at hitu
        replace N₁₈ : News g L h₁₈ ([(LU, listOf itu.toArray nu), (LC, listOf vsC.toArray nC)] ++ (196, tabObj ps₁) :: cs₁) := by
          intro p hp
          refine N₁₈ p ?_
          (revert p; refine fmc ?_ fun p hp => ?_)
          · exact .head _
          · exact .tail _ (.tail _ hp)
        ((repeat' (first | walk_at "use" | walk_at "cutx" | (k_unfold; try dsimp only) | ((with_reducible show wpAny _ _ (eval (Expr.Name _ _) (compEnvC _ _ _ _)) _ _ _); first | refine ld_blt (by k_asm) (by k_asm) (by with_reducible assumption) (by k_is) (by boot_by_name) (by decide) ?_ | refine ld_glb (by k_asm) (by k_asm) (by with_reducible assumption) (by k_is) ?_) | ((fail_if_success (with_reducible (refine stopAt ?_ ?_; rotate_left; first | exact s26 | exact s1 | exact s2 | exact s3 | exact s4 | exact s5 | exact s16 | exact s6 | exact s8 | exact s11 | exact s12 | exact s25 | exact s23 | exact s24 | exact s9 | exact s10 | exact s7))); (fail_if_success (with_reducible first | show wpAny _ _ (binaryOp Operator.FloorDiv _ (Value.int (HPow.hPow _ _) _)) _ _ _ | show LCg.CompSrc _ _ _ _ _ _ _ _ _ _ _ _ _ _ | show LCt.CompSrcT _ _ _ _ _ _ _ _ _ _ _ _ _ _ _ | show LCp.SrcLP _ _ _ _ _ _ _ _ _ _ _ _ _ _ _ | show LCg.CompEnd _ _ _ _ _ _ _ _ _ _ _ _ _ _)); first | walk1 | (dsimp only; walk1)))); walk_at "kend")
        have how2 : ∀ q ∈ [(LU, listOf itu.toArray nu), (LC, listOf vsC.toArray nC)], q.1 ≠ 196 := by
          intro q hq
          (revert q; refine fmc ?_ fun q hq => ?_)
          · exact Nat.ne_of_gt hlU.2.2.2.2.2.2.1
          · (revert q; refine fms ?_); exact hC196
        refine wpAny_call (heard_step X T Tp F₁₈ N₁₈ hT₁ h196 how2 (by decide) (by decide) (.head _) (fun q hq => Nat.ne_of_lt (allLt_mem hlU.2.2.2.2.2.2.2 q hq)) hitu (by rw [← hrE]; exact P.tRows) (by omega) (by rw [← hrE]; exact P.tLex) ?_)
        intro h₂₀ tk₂₀ ps₂ cs₂ LV vsV nV F₂₀ N₂₀ hT₂ hvV
        dsimp only
        replace N₂₀ : News g L h₂₀ ((LV, listOf vsV.toArray nV) :: (LU, listOf itu.toArray nu) :: (LC, listOf vsC.toArray nC) :: (196, tabObj ps₂) :: cs₂) := N₂₀
        clear F₁₈ N₁₈
        ((repeat' (first | walk_at "use" | walk_at "cutx" | (k_unfold; try dsimp only) | ((with_reducible show wpAny _ _ (eval (Expr.Name _ _) (compEnvC _ _ _ _)) _ _ _); first | refine ld_blt (by k_asm) (by k_asm) (by with_reducible assumption) (by k_is) (by boot_by_name) (by decide) ?_ | refine ld_glb (by k_asm) (by k_asm) (by with_reducible assumption) (by k_is) ?_) | ((fail_if_success (with_reducible (refine stopAt ?_ ?_; rotate_left; first | exact s26 | exact s1 | exact s2 | exact s3 | exact s4 | exact s5 | exact s16 | exact s6 | exact s8 | exact s11 | exact s12 | exact s25 | exact s23 | exact s24 | exact s9 | exact s10 | exact s7))); (fail_if_success (with_reducible first | show wpAny _ _ (binaryOp Operator.FloorDiv _ (Value.int (HPow.hPow _ _) _)) _ _ _ | show LCg.CompSrc _ _ _ _ _ _ _ _ _ _ _ _ _ _ | show LCt.CompSrcT _ _ _ _ _ _ _ _ _ _ _ _ _ _ _ | show LCp.SrcLP _ _ _ _ _ _ _ _ _ _ _ _ _ _ _ | show LCg.CompEnd _ _ _ _ _ _ _ _ _ _ _ _ _ _)); first | walk1 | (dsimp only; walk1)))); walk_at "kend")
        rename Fr _ _ _ _ => F₂₁
        rename News _ _ _ _ => N₂₁
        refine eq_bytsL (News.isList N₂₁ (.head _)) (News.isList N₂₁ (.tail _ (.head _))) hvV hitu (by k_units) ?_
        rw [decide_eq_true rfl]
        ((repeat' (first | walk_at "use" | walk_at "cutx" | (k_unfold; try dsimp only) | ((with_reducible show wpAny _ _ (eval (Expr.Name _ _) (compEnvC _ _ _ _)) _ _ _); first | refine ld_blt (by k_asm) (by k_asm) (by with_reducible assumption) (by k_is) (by boot_by_name) (by decide) ?_ | refine ld_glb (by k_asm) (by k_asm) (by with_reducible assumption) (by k_is) ?_) | ((fail_if_success (with_reducible (refine stopAt ?_ ?_; rotate_left; first | exact s26 | exact s1 | exact s2 | exact s3 | exact s4 | exact s5 | exact s16 | exact s6 | exact s8 | exact s11 | exact s12 | exact s25 | exact s23 | exact s24 | exact s9 | exact s10 | exact s7))); (fail_if_success (with_reducible first | show wpAny _ _ (binaryOp Operator.FloorDiv _ (Value.int (HPow.hPow _ _) _)) _ _ _ | show LCg.CompSrc _ _ _ _ _ _ _ _ _ _ _ _ _ _ | show LCt.CompSrcT _ _ _ _ _ _ _ _ _ _ _ _ _ _ _ | show LCp.SrcLP _ _ _ _ _ _ _ _ _ _ _ _ _ _ _ | show LCg.CompEnd _ _ _ _ _ _ _ _ _ _ _ _ _ _)); first | walk1 | (dsimp only; walk1)))); walk_at "kend")
        have ht2 := P.tKeys
        have ht3 := P.tCol
        rw [hrE] at ht2 ht3
        refine wpAny_call (column_call (at_of (ws := []) X T F₂₁ N₂₁ (fun _ hq => nomatch hq)) (by decide) (by decide) (News.isList N₂₁ (.head _)) hvV (by rw [ht2]; have := P.size; omega) (by rw [← hrE]; exact fun r hr => ⟨(P.tNe r hr).1, Nat.le_trans (P.tNe r hr).2 (by decide)⟩) (by have := P.size; omega) (Nat.le_of_eq ht2.symm) ?_)
        intro h₂₂ tk₂₂ LD vsD nD K₂₂ e0D eD hvD
        dsimp only at K₂₂ e0D eD ⊢
        obtain ⟨F₂₂, N₂₂⟩ := news_new F₂₁ N₂₁ K₂₂ e0D eD
        clear F₂₁ N₂₁
        ((repeat' (first | walk_at "use" | walk_at "cutx" | (k_unfold; try dsimp only) | ((with_reducible show wpAny _ _ (eval (Expr.Name _ _) (compEnvC _ _ _ _)) _ _ _); first | refine ld_blt (by k_asm) (by k_asm) (by with_reducible assumption) (by k_is) (by boot_by_name) (by decide) ?_ | refine ld_glb (by k_asm) (by k_asm) (by with_reducible assumption) (by k_is) ?_) | ((fail_if_success (with_reducible (refine stopAt ?_ ?_; rotate_left; first | exact s26 | exact s1 | exact s2 | exact s3 | exact s4 | exact s5 | exact s16 | exact s6 | exact s8 | exact s11 | exact s12 | exact s25 | exact s23 | exact s24 | exact s9 | exact s10 | exact s7))); (fail_if_success (with_reducible first | show wpAny _ _ (binaryOp Operator.FloorDiv _ (Value.int (HPow.hPow _ _) _)) _ _ _ | show LCg.CompSrc _ _ _ _ _ _ _ _ _ _ _ _ _ _ | show LCt.CompSrcT _ _ _ _ _ _ _ _ _ _ _ _ _ _ _ | show LCp.SrcLP _ _ _ _ _ _ _ _ _ _ _ _ _ _ _ | show LCg.CompEnd _ _ _ _ _ _ _ _ _ _ _ _ _ _)); first | walk1 | (dsimp only; walk1)))); walk_at "kend")
        rename News _ _ _ _ => N₂₃
        rw [ht3] at hvD
        refine eq_intsL (News.isList N₂₃ (.head _)) (News.isList N₂₃ (.tail _ (.tail _ (.tail _ (.head _))))) hvD hvC (by k_units) ?_
        rw [decide_eq_true rfl]
        ((repeat' (first | walk_at "use" | walk_at "cutx" | (k_unfold; try dsimp only) | ((with_reducible show wpAny _ _ (eval (Expr.Name _ _) (compEnvC _ _ _ _)) _ _ _); first | refine ld_blt (by k_asm) (by k_asm) (by with_reducible assumption) (by k_is) (by boot_by_name) (by decide) ?_ | refine ld_glb (by k_asm) (by k_asm) (by with_reducible assumption) (by k_is) ?_) | ((fail_if_success (with_reducible (refine stopAt ?_ ?_; rotate_left; first | exact s26 | exact s1 | exact s2 | exact s3 | exact s4 | exact s5 | exact s16 | exact s6 | exact s8 | exact s11 | exact s12 | exact s25 | exact s23 | exact s24 | exact s9 | exact s10 | exact s7))); (fail_if_success (with_reducible first | show wpAny _ _ (binaryOp Operator.FloorDiv _ (Value.int (HPow.hPow _ _) _)) _ _ _ | show LCg.CompSrc _ _ _ _ _ _ _ _ _ _ _ _ _ _ | show LCt.CompSrcT _ _ _ _ _ _ _ _ _ _ _ _ _ _ _ | show LCp.SrcLP _ _ _ _ _ _ _ _ _ _ _ _ _ _ _ | show LCg.CompEnd _ _ _ _ _ _ _ _ _ _ _ _ _ _)); first | walk1 | (dsimp only; walk1)))); walk_at "kend")
        first | walk1 | (w_end; refine goodW_bool (by assumption) (by assumption) (raisesW_false ?_) (law_claim _); wrow_none_raised)
        done)
end Mine
end
end

theorem PySem.Challenge.cw_oy0121_01_holds : PySem.Challenge.rw_oy0121_01.Holds :=
  Mine.Law
