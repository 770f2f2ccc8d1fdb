import PyProof.Rows.All
import Wide.All
import OpenK.AllK
import Wide.FinOn
import KE.KBytesWalk
import KE.BytesMake
import KE.KIsBytes
import KE.KxBytes
import PyProof.ListStr
import PyProof.EnumFor
import PyProof.EnumMake
import PySem.Challenge.RW_pa0056_01
set_option Elab.async false
set_option linter.unusedVariables false
-- NHD
section
open PySem PySem.W PyProof.Rows
namespace Mine
set_option maxRecDepth 1000000
set_option maxHeartbeats 0
abbrev rw0 : OpenLaw := PySem.Challenge.rw_pa0056_01
noncomputable def noPos : Pos := ⟨0, 0, 0, 0⟩
noncomputable def stA (i : Nat) : Stmt := match PySem.Challenge.pw_pa0056_01.main.body.drop i with
  | s :: _ => s
  | [] => .Pass noPos
noncomputable def stC (i j : Nat) : Stmt := match stA i with
  | .ClassDef _ _ _ b _ _ _ _ _ _ _ => (match b.drop j with
    | s :: _ => s
    | [] => .Pass noPos)
  | s => s
noncomputable def fnO (st : Stmt) (qn : Str) (gl : Addr) (cl : List (Str × Addr)) (dV kV doc mod : Value) (an : Option Addr) (code ct : Value) (bl : Addr) : Obj := match st with
  | .FunctionDef name args body _ _ _ scope _ _ _ => { cls := .type "function", data := .func { name := name, qualname := qn, params := args, body := .stmts body, scope := scope, globals := gl, closure := cl, defaults := dV, kwdefaults := kV, doc := doc, pyModule := mod, annotations := an, code := code, closureTuple := ct, builtins := bl } }
  | _ => { cls := .none, data := .plain }
noncomputable def keepL : List Nat := [0, 1, 3, 4, 5, 6, 8, 9, 10, 12, 13, 14, 15, 17, 18, 19, 20, 22, 25, 26, 27, 28, 29, 31, 32, 33, 34, 35]
noncomputable def frag (P : Params) : Frag := [
  (2, { cls := Value.none, data := Data.dict #[{ hash := PyData.keyHash P (Str.ofString "\x69mport.loaded._sre"), key := Value.str (Str.ofString "\x69mport.loaded._sre") 183, val := Value.bool true }, { hash := PyData.keyHash P (Str.ofString "class._frozen_importlib.BuiltinImporter"), key := Value.str (Str.ofString "class._frozen_importlib.BuiltinImporter") 185, val := Value.ref 14 }, { hash := PyData.keyHash P (Str.ofString "watched.\x69mport"), key := Value.str (Str.ofString "watched.\x69mport") 206, val := Value.ref 18 }, { hash := PyData.keyHash P (Str.ofString "class._frozen_importlib.ModuleSpec"), key := Value.str (Str.ofString "class._frozen_importlib.ModuleSpec") 216, val := Value.ref 22 }, { hash := PyData.keyHash P (Str.ofString "sys.modules.booked-epoch"), key := Value.str (Str.ofString "sys.modules.booked-epoch") 245, val := Value.int 3 0 }, { hash := PyData.keyHash P (Str.ofString "\x69mport.later-laid._sre"), key := Value.str (Str.ofString "\x69mport.later-laid._sre") 270, val := Value.bool true }, { hash := PyData.keyHash P (Str.ofString "watched.library"), key := Value.str (Str.ofString "watched.library") 272, val := Value.ref 27 }, { hash := PyData.keyHash P (Str.ofString "watched.library-objects"), key := Value.str (Str.ofString "watched.library-objects") 0, val := Value.str (Str.ofString "\x0c") 0 }, { hash := PyData.keyHash P (Str.ofString "watched.library-deep._sre"), key := Value.str (Str.ofString "watched.library-deep._sre") 273, val := Value.str (Str.ofString "\x04\x00\x00\x0b\x04\x00\x00\x0b\x04\x00\x00\x03\x04\x00\x00\x0b\x08\x04dict\x02") 0 }] 9 }),
  (3, { cls := Value.type "dict", data := Data.dict #[{ hash := PyData.keyHash P (Str.ofString "__name__"), key := Value.str (Str.ofString "__name__") 165, val := Value.str (Str.ofString "law_pa0056_01") 642 }, { hash := PyData.keyHash P (Str.ofString "__doc__"), key := Value.str (Str.ofString "__doc__") 166, val := Value.none }, { hash := PyData.keyHash P (Str.ofString "__package__"), key := Value.str (Str.ofString "__package__") 167, val := Value.none }, { hash := PyData.keyHash P (Str.ofString "__loader__"), key := Value.str (Str.ofString "__loader__") 168, val := Value.builtin "__main__.__loader__#opaque" }, { hash := PyData.keyHash P (Str.ofString "__spec__"), key := Value.str (Str.ofString "__spec__") 169, val := Value.none }, { hash := PyData.keyHash P (Str.ofString "__annotations__"), key := Value.str (Str.ofString "__annotations__") 170, val := Value.ref 6 }, { hash := PyData.keyHash P (Str.ofString "__builtins__"), key := Value.str (Str.ofString "__builtins__") 171, val := Value.ref 4 }, { hash := PyData.keyHash P (Str.ofString "__file__"), key := Value.str (Str.ofString "__file__") 173, val := Value.str (Str.ofString "/claim/cut.py") 172 }, { hash := PyData.keyHash P (Str.ofString "__cached__"), key := Value.str (Str.ofString "__cached__") 174, val := Value.none }, { hash := PyData.keyHash P (Str.ofString "_sre"), key := Value.str (Str.ofString "_sre") 275, val := Value.ref 12 }, { hash := PyData.keyHash P (Str.ofString "_wall"), key := Value.str (Str.ofString "_wall") 288, val := Value.ref 38 }, { hash := PyData.keyHash P (Str.ofString "heappush"), key := Value.str (Str.ofString "heappush") 298, val := Value.ref 45 }, { hash := PyData.keyHash P (Str.ofString "heappop"), key := Value.str (Str.ofString "heappop") 307, val := Value.ref 52 }, { hash := PyData.keyHash P (Str.ofString "_siftdown"), key := Value.str (Str.ofString "_siftdown") 319, val := Value.ref 59 }, { hash := PyData.keyHash P (Str.ofString "_siftup"), key := Value.str (Str.ofString "_siftup") 332, val := Value.ref 66 }, { hash := PyData.keyHash P (Str.ofString "_twin_re_1"), key := Value.str (Str.ofString "_twin_re_1") 364, val := Value.ref 71 }, { hash := PyData.keyHash P (Str.ofString "bytes_types"), key := Value.str (Str.ofString "bytes_types") 365, val := Value.ref 72 }, { hash := PyData.keyHash P (Str.ofString "_bytes_from_decode_data"), key := Value.str (Str.ofString "_bytes_from_decode_data") 372, val := Value.ref 79 }, { hash := PyData.keyHash P (Str.ofString "Error"), key := Value.str (Str.ofString "Error") 392, val := Value.ref 89 }, { hash := PyData.keyHash P (Str.ofString "_ascii_buffer"), key := Value.str (Str.ofString "_ascii_buffer") 400, val := Value.ref 99 }, { hash := PyData.keyHash P (Str.ofString "_buffer"), key := Value.str (Str.ofString "_buffer") 408, val := Value.ref 106 }, { hash := PyData.keyHash P (Str.ofString "_NO_SEP"), key := Value.str (Str.ofString "_NO_SEP") 409, val := Value.ref 107 }, { hash := PyData.keyHash P (Str.ofString "b2a_hex"), key := Value.str (Str.ofString "b2a_hex") 420, val := Value.ref 115 }, { hash := PyData.keyHash P (Str.ofString "hexlify"), key := Value.str (Str.ofString "hexlify") 421, val := Value.ref 115 }, { hash := PyData.keyHash P (Str.ofString "_hex_value"), key := Value.str (Str.ofString "_hex_value") 428, val := Value.ref 122 }, { hash := PyData.keyHash P (Str.ofString "a2b_hex"), key := Value.str (Str.ofString "a2b_hex") 441, val := Value.ref 129 }, { hash := PyData.keyHash P (Str.ofString "unhexlify"), key := Value.str (Str.ofString "unhexlify") 442, val := Value.ref 129 }, { hash := PyData.keyHash P (Str.ofString "b16encode"), key := Value.str (Str.ofString "b16encode") 451, val := Value.ref 136 }, { hash := PyData.keyHash P (Str.ofString "b16decode"), key := Value.str (Str.ofString "b16decode") 459, val := Value.ref 144 }, { hash := PyData.keyHash P (Str.ofString "_NODE_OUT"), key := Value.str (Str.ofString "_NODE_OUT") 464, val := Value.int (-1) 463 }, { hash := PyData.keyHash P (Str.ofString "_NODE_DONE"), key := Value.str (Str.ofString "_NODE_DONE") 467, val := Value.int (-2) 466 }, { hash := PyData.keyHash P (Str.ofString "_NodeInfo"), key := Value.str (Str.ofString "_NodeInfo") 504, val := Value.ref 163 }, { hash := PyData.keyHash P (Str.ofString "CycleError"), key := Value.str (Str.ofString "CycleError") 522, val := Value.ref 178 }, { hash := PyData.keyHash P (Str.ofString "TopologicalSorter"), key := Value.str (Str.ofString "TopologicalSorter") 641, val := Value.ref 260 }, { hash := PyData.keyHash P (Str.ofString "_law_octets"), key := Value.str (Str.ofString "_law_octets") 649, val := Value.ref 269 }, { hash := PyData.keyHash P (Str.ofString "_law_turn"), key := Value.str (Str.ofString "_law_turn") 655, val := Value.ref 274 }, { hash := PyData.keyHash P (Str.ofString "_law_served"), key := Value.str (Str.ofString "_law_served") 661, val := Value.ref 279 }, { hash := PyData.keyHash P (Str.ofString "_law_handed"), key := Value.str (Str.ofString "_law_handed") 667, val := Value.ref 284 }, { hash := PyData.keyHash P (Str.ofString "law"), key := Value.str (Str.ofString "law") 673, val := Value.ref 289 }] 39 }),
  (32, { cls := Value.type "tuple", data := Data.seq #[] }),
  (34, { cls := Value.type "tuple", data := Data.seq #[Value.str (Str.ofString "k") 285] }),
  (35, { cls := Value.type "tuple", data := Data.seq #[] }),
  (37, { cls := Value.type "code", data := Data.fields #[Value.str (Str.ofString "_wall") 282, Value.str (Str.ofString "_wall") 283, Value.str (Str.ofString "/claim/cut.py") 284, Value.int 2 0, Value.int 1 0, Value.int 0 0, Value.int 0 0, Value.int 3 0, Value.ref 32, Value.bool true, Value.int 276 0, Value.ref 33, Value.none, Value.ref 34, Value.ref 35, Value.ref 36, Value.int 286 0, Value.int 2 0, Value.str (Str.ofString "/claim/cut.py") 287] }),
  (38, fnO (stA 1) (Str.ofString "_wall") (3) ([]) (Value.none) (Value.none) (Value.none) (Value.str (Str.ofString "__main__") 164) (none) (Value.ref 37) (Value.none) (0)),
  (39, { cls := Value.type "tuple", data := Data.seq #[] }),
  (41, { cls := Value.type "tuple", data := Data.seq #[Value.str (Str.ofString "heap") 294, Value.str (Str.ofString "item") 295] }),
  (42, { cls := Value.type "tuple", data := Data.seq #[] }),
  (44, { cls := Value.type "code", data := Data.fields #[Value.str (Str.ofString "heappush") 291, Value.str (Str.ofString "heappush") 292, Value.str (Str.ofString "/claim/cut.py") 293, Value.int 6 0, Value.int 2 0, Value.int 0 0, Value.int 0 0, Value.int 3 0, Value.ref 39, Value.bool true, Value.int 276 0, Value.ref 40, Value.none, Value.ref 41, Value.ref 42, Value.ref 43, Value.int 296 0, Value.int 6 0, Value.str (Str.ofString "/claim/cut.py") 297] }),
  (45, fnO (stA 3) (Str.ofString "heappush") (3) ([]) (Value.none) (Value.none) (Value.none) (Value.str (Str.ofString "cpy313.heapq") 289) (none) (Value.ref 44) (Value.none) (0)),
  (46, { cls := Value.type "tuple", data := Data.seq #[] }),
  (48, { cls := Value.type "tuple", data := Data.seq #[Value.str (Str.ofString "heap") 302, Value.str (Str.ofString "lastelt") 303, Value.str (Str.ofString "returnitem") 304] }),
  (49, { cls := Value.type "tuple", data := Data.seq #[] }),
  (51, { cls := Value.type "code", data := Data.fields #[Value.str (Str.ofString "heappop") 299, Value.str (Str.ofString "heappop") 300, Value.str (Str.ofString "/claim/cut.py") 301, Value.int 9 0, Value.int 1 0, Value.int 0 0, Value.int 0 0, Value.int 3 0, Value.ref 46, Value.bool true, Value.int 276 0, Value.ref 47, Value.none, Value.ref 48, Value.ref 49, Value.ref 50, Value.int 305 0, Value.int 9 0, Value.str (Str.ofString "/claim/cut.py") 306] }),
  (52, fnO (stA 4) (Str.ofString "heappop") (3) ([]) (Value.none) (Value.none) (Value.none) (Value.str (Str.ofString "cpy313.heapq") 289) (none) (Value.ref 51) (Value.none) (0)),
  (53, { cls := Value.type "tuple", data := Data.seq #[] }),
  (55, { cls := Value.type "tuple", data := Data.seq #[Value.str (Str.ofString "heap") 311, Value.str (Str.ofString "startpos") 312, Value.str (Str.ofString "pos") 313, Value.str (Str.ofString "newitem") 314, Value.str (Str.ofString "parentpos") 315, Value.str (Str.ofString "parent") 316] }),
  (56, { cls := Value.type "tuple", data := Data.seq #[] }),
  (58, { cls := Value.type "code", data := Data.fields #[Value.str (Str.ofString "_siftdown") 308, Value.str (Str.ofString "_siftdown") 309, Value.str (Str.ofString "/claim/cut.py") 310, Value.int 17 0, Value.int 3 0, Value.int 0 0, Value.int 0 0, Value.int 3 0, Value.ref 53, Value.bool true, Value.int 276 0, Value.ref 54, Value.none, Value.ref 55, Value.ref 56, Value.ref 57, Value.int 317 0, Value.int 17 0, Value.str (Str.ofString "/claim/cut.py") 318] }),
  (59, fnO (stA 5) (Str.ofString "_siftdown") (3) ([]) (Value.none) (Value.none) (Value.none) (Value.str (Str.ofString "cpy313.heapq") 289) (none) (Value.ref 58) (Value.none) (0)),
  (60, { cls := Value.type "tuple", data := Data.seq #[] }),
  (62, { cls := Value.type "tuple", data := Data.seq #[Value.str (Str.ofString "heap") 323, Value.str (Str.ofString "pos") 324, Value.str (Str.ofString "endpos") 325, Value.str (Str.ofString "startpos") 326, Value.str (Str.ofString "newitem") 327, Value.str (Str.ofString "childpos") 328, Value.str (Str.ofString "rightpos") 329] }),
  (63, { cls := Value.type "tuple", data := Data.seq #[] }),
  (65, { cls := Value.type "code", data := Data.fields #[Value.str (Str.ofString "_siftup") 320, Value.str (Str.ofString "_siftup") 321, Value.str (Str.ofString "/claim/cut.py") 322, Value.int 28 0, Value.int 2 0, Value.int 0 0, Value.int 0 0, Value.int 3 0, Value.ref 60, Value.bool true, Value.int 276 0, Value.ref 61, Value.none, Value.ref 62, Value.ref 63, Value.ref 64, Value.int 330 0, Value.int 28 0, Value.str (Str.ofString "/claim/cut.py") 331] }),
  (66, fnO (stA 6) (Str.ofString "_siftup") (3) ([]) (Value.none) (Value.none) (Value.none) (Value.str (Str.ofString "cpy313.heapq") 289) (none) (Value.ref 65) (Value.none) (0)),
  (70, { cls := Value.type "tuple", data := Data.seq #[Value.int 14 0, Value.int 12 0, Value.int 4 0, Value.int 1 0, Value.int 1 0, Value.int 21 0, Value.int 22 0, Value.int 48 0, Value.int 57 0, Value.int 22 0, Value.int 65 0, Value.int 70 0, Value.int 0 0, Value.int 13 0, Value.int 9 0, Value.int 21 0, Value.int 22 0, Value.int 48 0, Value.int 57 0, Value.int 22 0, Value.int 65 0, Value.int 70 0, Value.int 0 0, Value.int 1 0] }),
  (71, { cls := Value.type "re.Pattern", data := Data.fields #[Value.bytes #[91, 94, 48, 45, 57, 65, 45, 70, 93] 336, Value.int 0 363, Value.int 0 0, Value.none, Value.none, Value.ref 70, Value.int 1 0] }),
  (72, { cls := Value.type "tuple", data := Data.seq #[Value.type "bytes", Value.type "bytearray"] }),
  (73, { cls := Value.type "tuple", data := Data.seq #[] }),
  (75, { cls := Value.type "tuple", data := Data.seq #[Value.str (Str.ofString "s") 369] }),
  (76, { cls := Value.type "tuple", data := Data.seq #[] }),
  (78, { cls := Value.type "code", data := Data.fields #[Value.str (Str.ofString "_bytes_from_decode_data") 366, Value.str (Str.ofString "_bytes_from_decode_data") 367, Value.str (Str.ofString "/claim/cut.py") 368, Value.int 45 0, Value.int 1 0, Value.int 0 0, Value.int 0 0, Value.int 3 0, Value.ref 73, Value.bool true, Value.int 276 0, Value.ref 74, Value.none, Value.ref 75, Value.ref 76, Value.ref 77, Value.int 370 0, Value.int 45 0, Value.str (Str.ofString "/claim/cut.py") 371] }),
  (79, fnO (stA 10) (Str.ofString "_bytes_from_decode_data") (3) ([]) (Value.none) (Value.none) (Value.none) (Value.str (Str.ofString "cpy313.base64") 333) (none) (Value.ref 78) (Value.none) (0)),
  (80, { cls := Value.type "tuple", data := Data.seq #[Value.type "ValueError"] }),
  (87, { cls := Value.type "tuple", data := Data.seq #[] }),
  (88, { cls := Value.type "dict", data := Data.dict #[{ hash := PyData.keyHash P (Str.ofString "__module__"), key := Value.str (Str.ofString "__module__") 382, val := Value.str (Str.ofString "binascii") 373 }, { hash := PyData.keyHash P (Str.ofString "__firstlineno__"), key := Value.str (Str.ofString "__firstlineno__") 386, val := Value.int 58 385 }, { hash := PyData.keyHash P (Str.ofString "__static_attributes__"), key := Value.str (Str.ofString "__static_attributes__") 387, val := Value.ref 87 }, { hash := PyData.keyHash P (Str.ofString "__weakref__"), key := Value.str (Str.ofString "__weakref__") 389, val := Value.ref 90 }, { hash := PyData.keyHash P (Str.ofString "__doc__"), key := Value.str (Str.ofString "__doc__") 390, val := Value.none }] 3 }),
  (89, { cls := Value.type "type", data := Data.cls { name := Str.ofString "Error", bases := [Value.type "ValueError"], mro := [Value.ref 89, Value.type "ValueError", Value.type "Exception", Value.type "BaseException", Value.type "object"], ns := 88, qualname := Str.ofString "Error" }, slots := #[some (Value.ref 80), none, some (Value.str (Str.ofString "Error") 375), some (Value.str (Str.ofString "Error") 383), some (Value.builtin "ValueError.__new__"), some (Value.bool true)] }),
  (90, { cls := Value.type "getset_descriptor", data := Data.fields #[Value.str (Str.ofString "__weakref__") 388, Value.ref 89, Value.builtin "ExceptionGroup.__weakref__", Value.none] }),
  (93, { cls := Value.type "tuple", data := Data.seq #[] }),
  (95, { cls := Value.type "tuple", data := Data.seq #[Value.str (Str.ofString "data") 396, Value.str (Str.ofString "t") 397] }),
  (96, { cls := Value.type "tuple", data := Data.seq #[] }),
  (98, { cls := Value.type "code", data := Data.fields #[Value.str (Str.ofString "_ascii_buffer") 393, Value.str (Str.ofString "_ascii_buffer") 394, Value.str (Str.ofString "/claim/cut.py") 395, Value.int 60 0, Value.int 1 0, Value.int 0 0, Value.int 0 0, Value.int 3 0, Value.ref 93, Value.bool true, Value.int 276 0, Value.ref 94, Value.none, Value.ref 95, Value.ref 96, Value.ref 97, Value.int 398 0, Value.int 60 0, Value.str (Str.ofString "/claim/cut.py") 399] }),
  (99, fnO (stA 13) (Str.ofString "_ascii_buffer") (3) ([]) (Value.none) (Value.none) (Value.none) (Value.str (Str.ofString "binascii") 373) (none) (Value.ref 98) (Value.none) (0)),
  (100, { cls := Value.type "tuple", data := Data.seq #[] }),
  (102, { cls := Value.type "tuple", data := Data.seq #[Value.str (Str.ofString "data") 404, Value.str (Str.ofString "t") 405] }),
  (103, { cls := Value.type "tuple", data := Data.seq #[] }),
  (105, { cls := Value.type "code", data := Data.fields #[Value.str (Str.ofString "_buffer") 401, Value.str (Str.ofString "_buffer") 402, Value.str (Str.ofString "/claim/cut.py") 403, Value.int 71 0, Value.int 1 0, Value.int 0 0, Value.int 0 0, Value.int 3 0, Value.ref 100, Value.bool true, Value.int 276 0, Value.ref 101, Value.none, Value.ref 102, Value.ref 103, Value.ref 104, Value.int 406 0, Value.int 71 0, Value.str (Str.ofString "/claim/cut.py") 407] }),
  (106, fnO (stA 14) (Str.ofString "_buffer") (3) ([]) (Value.none) (Value.none) (Value.none) (Value.str (Str.ofString "binascii") 373) (none) (Value.ref 105) (Value.none) (0)),
  (107, { cls := Value.type "object" }),
  (108, { cls := Value.type "tuple", data := Data.seq #[Value.ref 107, Value.int 1 410] }),
  (109, { cls := Value.type "tuple", data := Data.seq #[] }),
  (111, { cls := Value.type "tuple", data := Data.seq #[Value.str (Str.ofString "data") 414, Value.str (Str.ofString "sep") 415, Value.str (Str.ofString "bytes_per_sep") 416, Value.str (Str.ofString "t") 417] }),
  (112, { cls := Value.type "tuple", data := Data.seq #[] }),
  (114, { cls := Value.type "code", data := Data.fields #[Value.str (Str.ofString "b2a_hex") 411, Value.str (Str.ofString "b2a_hex") 412, Value.str (Str.ofString "/claim/cut.py") 413, Value.int 79 0, Value.int 3 0, Value.int 0 0, Value.int 0 0, Value.int 3 0, Value.ref 109, Value.bool true, Value.int 276 0, Value.ref 110, Value.none, Value.ref 111, Value.ref 112, Value.ref 113, Value.int 418 0, Value.int 79 0, Value.str (Str.ofString "/claim/cut.py") 419] }),
  (115, fnO (stA 16) (Str.ofString "b2a_hex") (3) ([]) (Value.ref 108) (Value.none) (Value.none) (Value.str (Str.ofString "binascii") 373) (none) (Value.ref 114) (Value.none) (0)),
  (116, { cls := Value.type "tuple", data := Data.seq #[] }),
  (118, { cls := Value.type "tuple", data := Data.seq #[Value.str (Str.ofString "c") 425] }),
  (119, { cls := Value.type "tuple", data := Data.seq #[] }),
  (121, { cls := Value.type "code", data := Data.fields #[Value.str (Str.ofString "_hex_value") 422, Value.str (Str.ofString "_hex_value") 423, Value.str (Str.ofString "/claim/cut.py") 424, Value.int 96 0, Value.int 1 0, Value.int 0 0, Value.int 0 0, Value.int 3 0, Value.ref 116, Value.bool true, Value.int 276 0, Value.ref 117, Value.none, Value.ref 118, Value.ref 119, Value.ref 120, Value.int 426 0, Value.int 96 0, Value.str (Str.ofString "/claim/cut.py") 427] }),
  (122, fnO (stA 18) (Str.ofString "_hex_value") (3) ([]) (Value.none) (Value.none) (Value.none) (Value.str (Str.ofString "binascii") 373) (none) (Value.ref 121) (Value.none) (0)),
  (123, { cls := Value.type "tuple", data := Data.seq #[] }),
  (125, { cls := Value.type "tuple", data := Data.seq #[Value.str (Str.ofString "hexstr") 432, Value.str (Str.ofString "argbuf") 433, Value.str (Str.ofString "arglen") 434, Value.str (Str.ofString "out") 435, Value.str (Str.ofString "i") 436, Value.str (Str.ofString "top") 437, Value.str (Str.ofString "bot") 438] }),
  (126, { cls := Value.type "tuple", data := Data.seq #[] }),
  (128, { cls := Value.type "code", data := Data.fields #[Value.str (Str.ofString "a2b_hex") 429, Value.str (Str.ofString "a2b_hex") 430, Value.str (Str.ofString "/claim/cut.py") 431, Value.int 104 0, Value.int 1 0, Value.int 1 0, Value.int 0 0, Value.int 3 0, Value.ref 123, Value.bool true, Value.int 276 0, Value.ref 124, Value.none, Value.ref 125, Value.ref 126, Value.ref 127, Value.int 439 0, Value.int 104 0, Value.str (Str.ofString "/claim/cut.py") 440] }),
  (129, fnO (stA 19) (Str.ofString "a2b_hex") (3) ([]) (Value.none) (Value.none) (Value.none) (Value.str (Str.ofString "binascii") 373) (none) (Value.ref 128) (Value.none) (0)),
  (130, { cls := Value.type "tuple", data := Data.seq #[] }),
  (132, { cls := Value.type "tuple", data := Data.seq #[Value.str (Str.ofString "s") 448] }),
  (133, { cls := Value.type "tuple", data := Data.seq #[] }),
  (135, { cls := Value.type "code", data := Data.fields #[Value.str (Str.ofString "b16encode") 445, Value.str (Str.ofString "b16encode") 446, Value.str (Str.ofString "/claim/cut.py") 447, Value.int 121 0, Value.int 1 0, Value.int 0 0, Value.int 0 0, Value.int 3 0, Value.ref 130, Value.bool true, Value.int 276 0, Value.ref 131, Value.none, Value.ref 132, Value.ref 133, Value.ref 134, Value.int 449 0, Value.int 121 0, Value.str (Str.ofString "/claim/cut.py") 450] }),
  (136, fnO (stA 22) (Str.ofString "b16encode") (3) ([]) (Value.none) (Value.none) (Value.none) (Value.str (Str.ofString "cpy313.base64") 443) (none) (Value.ref 135) (Value.none) (0)),
  (137, { cls := Value.type "tuple", data := Data.seq #[Value.bool false] }),
  (138, { cls := Value.type "tuple", data := Data.seq #[] }),
  (140, { cls := Value.type "tuple", data := Data.seq #[Value.str (Str.ofString "s") 455, Value.str (Str.ofString "casefold") 456] }),
  (141, { cls := Value.type "tuple", data := Data.seq #[] }),
  (143, { cls := Value.type "code", data := Data.fields #[Value.str (Str.ofString "b16decode") 452, Value.str (Str.ofString "b16decode") 453, Value.str (Str.ofString "/claim/cut.py") 454, Value.int 123 0, Value.int 2 0, Value.int 0 0, Value.int 0 0, Value.int 3 0, Value.ref 138, Value.bool true, Value.int 276 0, Value.ref 139, Value.none, Value.ref 140, Value.ref 141, Value.ref 142, Value.int 457 0, Value.int 123 0, Value.str (Str.ofString "/claim/cut.py") 458] }),
  (144, fnO (stA 23) (Str.ofString "b16decode") (3) ([]) (Value.ref 137) (Value.none) (Value.none) (Value.str (Str.ofString "cpy313.base64") 443) (none) (Value.ref 143) (Value.none) (0)),
  (152, { cls := Value.type "tuple", data := Data.seq #[Value.str (Str.ofString "node") 480, Value.str (Str.ofString "npredecessors") 481, Value.str (Str.ofString "successors") 482] }),
  (153, { cls := Value.type "tuple", data := Data.seq #[] }),
  (155, { cls := Value.type "tuple", data := Data.seq #[Value.str (Str.ofString "self") 487, Value.str (Str.ofString "node") 488] }),
  (156, { cls := Value.type "tuple", data := Data.seq #[] }),
  (158, { cls := Value.type "code", data := Data.fields #[Value.str (Str.ofString "__init__") 484, Value.str (Str.ofString "_NodeInfo.__init__") 485, Value.str (Str.ofString "/claim/cut.py") 486, Value.int 136 0, Value.int 2 0, Value.int 0 0, Value.int 0 0, Value.int 3 0, Value.ref 153, Value.bool true, Value.int 276 0, Value.ref 154, Value.none, Value.ref 155, Value.ref 156, Value.ref 157, Value.int 489 0, Value.int 136 0, Value.str (Str.ofString "/claim/cut.py") 490] }),
  (159, fnO (stC 27 1) (Str.ofString "_NodeInfo.__init__") (3) ([]) (Value.none) (Value.none) (Value.none) (Value.str (Str.ofString "cpy313.graphlib") 460) (none) (Value.ref 158) (Value.none) (0)),
  (160, { cls := Value.type "tuple", data := Data.seq #[Value.str (Str.ofString "node") 492, Value.str (Str.ofString "npredecessors") 493, Value.str (Str.ofString "successors") 494] }),
  (162, { cls := Value.type "dict", data := Data.dict #[{ hash := PyData.keyHash P (Str.ofString "__module__"), key := Value.str (Str.ofString "__module__") 475, val := Value.str (Str.ofString "cpy313.graphlib") 460 }, { hash := PyData.keyHash P (Str.ofString "__firstlineno__"), key := Value.str (Str.ofString "__firstlineno__") 479, val := Value.int 133 478 }, { hash := PyData.keyHash P (Str.ofString "__slots__"), key := Value.str (Str.ofString "__slots__") 483, val := Value.ref 152 }, { hash := PyData.keyHash P (Str.ofString "__init__"), key := Value.str (Str.ofString "__init__") 491, val := Value.ref 159 }, { hash := PyData.keyHash P (Str.ofString "__static_attributes__"), key := Value.str (Str.ofString "__static_attributes__") 495, val := Value.ref 160 }, { hash := PyData.keyHash P (Str.ofString "node"), key := Value.str (Str.ofString "node") 497, val := Value.ref 164 }, { hash := PyData.keyHash P (Str.ofString "npredecessors"), key := Value.str (Str.ofString "npredecessors") 499, val := Value.ref 165 }, { hash := PyData.keyHash P (Str.ofString "successors"), key := Value.str (Str.ofString "successors") 501, val := Value.ref 166 }, { hash := PyData.keyHash P (Str.ofString "__doc__"), key := Value.str (Str.ofString "__doc__") 502, val := Value.none }] 5 }),
  (163, { cls := Value.type "type", data := Data.cls { name := Str.ofString "_NodeInfo", bases := [Value.type "object"], mro := [Value.ref 163, Value.type "object"], ns := 162, qualname := Str.ofString "_NodeInfo", hasDict := false, slotNames := [Str.ofString "node", Str.ofString "npredecessors", Str.ofString "successors"] }, slots := #[none, none, some (Value.str (Str.ofString "_NodeInfo") 468), some (Value.str (Str.ofString "_NodeInfo") 476), some (Value.builtin "object.__new__"), some (Value.bool false)] }),
  (164, { cls := Value.type "member_descriptor", data := Data.fields #[Value.str (Str.ofString "node") 496, Value.ref 163, Value.builtin "proto.slot", Value.builtin "proto.slot#set", Value.int 2 0] }),
  (165, { cls := Value.type "member_descriptor", data := Data.fields #[Value.str (Str.ofString "npredecessors") 498, Value.ref 163, Value.builtin "proto.slot", Value.builtin "proto.slot#set", Value.int 1 0] }),
  (166, { cls := Value.type "member_descriptor", data := Data.fields #[Value.str (Str.ofString "successors") 500, Value.ref 163, Value.builtin "proto.slot", Value.builtin "proto.slot#set", Value.int 0 0] }),
  (169, { cls := Value.type "tuple", data := Data.seq #[Value.type "ValueError"] }),
  (176, { cls := Value.type "tuple", data := Data.seq #[] }),
  (177, { cls := Value.type "dict", data := Data.dict #[{ hash := PyData.keyHash P (Str.ofString "__module__"), key := Value.str (Str.ofString "__module__") 512, val := Value.str (Str.ofString "cpy313.graphlib") 460 }, { hash := PyData.keyHash P (Str.ofString "__firstlineno__"), key := Value.str (Str.ofString "__firstlineno__") 516, val := Value.int 140 515 }, { hash := PyData.keyHash P (Str.ofString "__static_attributes__"), key := Value.str (Str.ofString "__static_attributes__") 517, val := Value.ref 176 }, { hash := PyData.keyHash P (Str.ofString "__weakref__"), key := Value.str (Str.ofString "__weakref__") 519, val := Value.ref 179 }, { hash := PyData.keyHash P (Str.ofString "__doc__"), key := Value.str (Str.ofString "__doc__") 520, val := Value.none }] 3 }),
  (178, { cls := Value.type "type", data := Data.cls { name := Str.ofString "CycleError", bases := [Value.type "ValueError"], mro := [Value.ref 178, Value.type "ValueError", Value.type "Exception", Value.type "BaseException", Value.type "object"], ns := 177, qualname := Str.ofString "CycleError" }, slots := #[some (Value.ref 169), none, some (Value.str (Str.ofString "CycleError") 505), some (Value.str (Str.ofString "CycleError") 513), some (Value.builtin "ValueError.__new__"), some (Value.bool true)] }),
  (179, { cls := Value.type "getset_descriptor", data := Data.fields #[Value.str (Str.ofString "__weakref__") 518, Value.ref 178, Value.builtin "ExceptionGroup.__weakref__", Value.none] }),
  (189, { cls := Value.type "tuple", data := Data.seq #[Value.none] }),
  (190, { cls := Value.type "tuple", data := Data.seq #[] }),
  (192, { cls := Value.type "tuple", data := Data.seq #[Value.str (Str.ofString "self") 538, Value.str (Str.ofString "graph") 539, Value.str (Str.ofString "node") 540, Value.str (Str.ofString "predecessors") 541] }),
  (193, { cls := Value.type "tuple", data := Data.seq #[] }),
  (195, { cls := Value.type "code", data := Data.fields #[Value.str (Str.ofString "__init__") 535, Value.str (Str.ofString "TopologicalSorter.__init__") 536, Value.str (Str.ofString "/claim/cut.py") 537, Value.int 144 0, Value.int 2 0, Value.int 0 0, Value.int 0 0, Value.int 3 0, Value.ref 190, Value.bool true, Value.int 276 0, Value.ref 191, Value.none, Value.ref 192, Value.ref 193, Value.ref 194, Value.int 542 0, Value.int 144 0, Value.str (Str.ofString "/claim/cut.py") 543] }),
  (196, fnO (stC 29 0) (Str.ofString "TopologicalSorter.__init__") (3) ([]) (Value.ref 189) (Value.none) (Value.none) (Value.str (Str.ofString "cpy313.graphlib") 460) (none) (Value.ref 195) (Value.none) (0)),
  (197, { cls := Value.type "tuple", data := Data.seq #[] }),
  (199, { cls := Value.type "tuple", data := Data.seq #[Value.str (Str.ofString "self") 548, Value.str (Str.ofString "node") 549, Value.str (Str.ofString "result") 550] }),
  (200, { cls := Value.type "tuple", data := Data.seq #[] }),
  (202, { cls := Value.type "code", data := Data.fields #[Value.str (Str.ofString "_get_nodeinfo") 545, Value.str (Str.ofString "TopologicalSorter._get_nodeinfo") 546, Value.str (Str.ofString "/claim/cut.py") 547, Value.int 153 0, Value.int 2 0, Value.int 0 0, Value.int 0 0, Value.int 3 0, Value.ref 197, Value.bool true, Value.int 276 0, Value.ref 198, Value.none, Value.ref 199, Value.ref 200, Value.ref 201, Value.int 551 0, Value.int 153 0, Value.str (Str.ofString "/claim/cut.py") 552] }),
  (203, fnO (stC 29 1) (Str.ofString "TopologicalSorter._get_nodeinfo") (3) ([]) (Value.none) (Value.none) (Value.none) (Value.str (Str.ofString "cpy313.graphlib") 460) (none) (Value.ref 202) (Value.none) (0)),
  (204, { cls := Value.type "tuple", data := Data.seq #[] }),
  (206, { cls := Value.type "tuple", data := Data.seq #[Value.str (Str.ofString "self") 557, Value.str (Str.ofString "node") 558, Value.str (Str.ofString "predecessors") 559, Value.str (Str.ofString "nodeinfo") 560, Value.str (Str.ofString "pred") 561, Value.str (Str.ofString "pred_info") 562] }),
  (207, { cls := Value.type "tuple", data := Data.seq #[] }),
  (209, { cls := Value.type "code", data := Data.fields #[Value.str (Str.ofString "add") 554, Value.str (Str.ofString "TopologicalSorter.add") 555, Value.str (Str.ofString "/claim/cut.py") 556, Value.int 158 0, Value.int 2 0, Value.int 0 0, Value.int 0 0, Value.int 7 0, Value.ref 204, Value.bool true, Value.int 276 0, Value.ref 205, Value.none, Value.ref 206, Value.ref 207, Value.ref 208, Value.int 563 0, Value.int 158 0, Value.str (Str.ofString "/claim/cut.py") 564] }),
  (210, fnO (stC 29 2) (Str.ofString "TopologicalSorter.add") (3) ([]) (Value.none) (Value.none) (Value.none) (Value.str (Str.ofString "cpy313.graphlib") 460) (none) (Value.ref 209) (Value.none) (0)),
  (211, { cls := Value.type "tuple", data := Data.seq #[] }),
  (214, { cls := Value.type "code", data := Data.fields #[Value.str (Str.ofString "prepare") 566, Value.str (Str.ofString "TopologicalSorter.prepare") 567, Value.str (Str.ofString "/claim/cut.py") 568, Value.int 167 0, Value.int 1 0, Value.int 0 0, Value.int 0 0, Value.int 3 0, Value.ref 211, Value.bool true, Value.int 276 0, Value.ref 212, Value.none, Value.none, Value.none, Value.ref 213, Value.int 569 0, Value.int 167 0, Value.str (Str.ofString "/claim/cut.py") 570] }),
  (215, fnO (stC 29 3) (Str.ofString "TopologicalSorter.prepare") (3) ([]) (Value.none) (Value.none) (Value.none) (Value.str (Str.ofString "cpy313.graphlib") 460) (none) (Value.ref 214) (Value.none) (0)),
  (216, { cls := Value.type "tuple", data := Data.seq #[] }),
  (218, { cls := Value.type "tuple", data := Data.seq #[Value.str (Str.ofString "self") 575, Value.str (Str.ofString "result") 576, Value.str (Str.ofString "n2i") 577, Value.str (Str.ofString "node") 578] }),
  (219, { cls := Value.type "tuple", data := Data.seq #[] }),
  (221, { cls := Value.type "code", data := Data.fields #[Value.str (Str.ofString "get_ready") 572, Value.str (Str.ofString "TopologicalSorter.get_ready") 573, Value.str (Str.ofString "/claim/cut.py") 574, Value.int 175 0, Value.int 1 0, Value.int 0 0, Value.int 0 0, Value.int 3 0, Value.ref 216, Value.bool true, Value.int 276 0, Value.ref 217, Value.none, Value.ref 218, Value.ref 219, Value.ref 220, Value.int 579 0, Value.int 175 0, Value.str (Str.ofString "/claim/cut.py") 580] }),
  (222, fnO (stC 29 4) (Str.ofString "TopologicalSorter.get_ready") (3) ([]) (Value.none) (Value.none) (Value.none) (Value.str (Str.ofString "cpy313.graphlib") 460) (none) (Value.ref 221) (Value.none) (0)),
  (223, { cls := Value.type "tuple", data := Data.seq #[] }),
  (225, { cls := Value.type "tuple", data := Data.seq #[Value.str (Str.ofString "self") 585] }),
  (226, { cls := Value.type "tuple", data := Data.seq #[] }),
  (228, { cls := Value.type "code", data := Data.fields #[Value.str (Str.ofString "is_active") 582, Value.str (Str.ofString "TopologicalSorter.is_active") 583, Value.str (Str.ofString "/claim/cut.py") 584, Value.int 186 0, Value.int 1 0, Value.int 0 0, Value.int 0 0, Value.int 3 0, Value.ref 223, Value.bool true, Value.int 276 0, Value.ref 224, Value.none, Value.ref 225, Value.ref 226, Value.ref 227, Value.int 586 0, Value.int 186 0, Value.str (Str.ofString "/claim/cut.py") 587] }),
  (229, fnO (stC 29 5) (Str.ofString "TopologicalSorter.is_active") (3) ([]) (Value.none) (Value.none) (Value.none) (Value.str (Str.ofString "cpy313.graphlib") 460) (none) (Value.ref 228) (Value.none) (0)),
  (230, { cls := Value.type "tuple", data := Data.seq #[] }),
  (232, { cls := Value.type "tuple", data := Data.seq #[Value.str (Str.ofString "self") 592] }),
  (233, { cls := Value.type "tuple", data := Data.seq #[] }),
  (235, { cls := Value.type "code", data := Data.fields #[Value.str (Str.ofString "__bool__") 589, Value.str (Str.ofString "TopologicalSorter.__bool__") 590, Value.str (Str.ofString "/claim/cut.py") 591, Value.int 191 0, Value.int 1 0, Value.int 0 0, Value.int 0 0, Value.int 3 0, Value.ref 230, Value.bool true, Value.int 276 0, Value.ref 231, Value.none, Value.ref 232, Value.ref 233, Value.ref 234, Value.int 593 0, Value.int 191 0, Value.str (Str.ofString "/claim/cut.py") 594] }),
  (236, fnO (stC 29 6) (Str.ofString "TopologicalSorter.__bool__") (3) ([]) (Value.none) (Value.none) (Value.none) (Value.str (Str.ofString "cpy313.graphlib") 460) (none) (Value.ref 235) (Value.none) (0)),
  (237, { cls := Value.type "tuple", data := Data.seq #[] }),
  (239, { cls := Value.type "tuple", data := Data.seq #[Value.str (Str.ofString "self") 599, Value.str (Str.ofString "nodes") 600, Value.str (Str.ofString "n2i") 601, Value.str (Str.ofString "node") 602, Value.str (Str.ofString "nodeinfo") 603, Value.str (Str.ofString "stat") 604, Value.str (Str.ofString "successor") 605, Value.str (Str.ofString "successor_info") 606] }),
  (240, { cls := Value.type "tuple", data := Data.seq #[] }),
  (242, { cls := Value.type "code", data := Data.fields #[Value.str (Str.ofString "done") 596, Value.str (Str.ofString "TopologicalSorter.done") 597, Value.str (Str.ofString "/claim/cut.py") 598, Value.int 194 0, Value.int 1 0, Value.int 0 0, Value.int 0 0, Value.int 7 0, Value.ref 237, Value.bool true, Value.int 276 0, Value.ref 238, Value.none, Value.ref 239, Value.ref 240, Value.ref 241, Value.int 607 0, Value.int 194 0, Value.str (Str.ofString "/claim/cut.py") 608] }),
  (243, fnO (stC 29 7) (Str.ofString "TopologicalSorter.done") (3) ([]) (Value.none) (Value.none) (Value.none) (Value.str (Str.ofString "cpy313.graphlib") 460) (none) (Value.ref 242) (Value.none) (0)),
  (244, { cls := Value.type "tuple", data := Data.seq #[] }),
  (246, { cls := Value.type "tuple", data := Data.seq #[Value.str (Str.ofString "self") 613, Value.str (Str.ofString "n2i") 614, Value.str (Str.ofString "stack") 615, Value.str (Str.ofString "itstack") 616, Value.str (Str.ofString "seen") 617, Value.str (Str.ofString "node2stacki") 618, Value.str (Str.ofString "node") 619] }),
  (247, { cls := Value.type "tuple", data := Data.seq #[] }),
  (249, { cls := Value.type "code", data := Data.fields #[Value.str (Str.ofString "_find_cycle") 610, Value.str (Str.ofString "TopologicalSorter._find_cycle") 611, Value.str (Str.ofString "/claim/cut.py") 612, Value.int 217 0, Value.int 1 0, Value.int 0 0, Value.int 0 0, Value.int 3 0, Value.ref 244, Value.bool true, Value.int 276 0, Value.ref 245, Value.none, Value.ref 246, Value.ref 247, Value.ref 248, Value.int 620 0, Value.int 217 0, Value.str (Str.ofString "/claim/cut.py") 621] }),
  (250, fnO (stC 29 8) (Str.ofString "TopologicalSorter._find_cycle") (3) ([]) (Value.none) (Value.none) (Value.none) (Value.str (Str.ofString "cpy313.graphlib") 460) (none) (Value.ref 249) (Value.none) (0)),
  (251, { cls := Value.type "tuple", data := Data.seq #[] }),
  (253, { cls := Value.type "tuple", data := Data.seq #[Value.str (Str.ofString "self") 626] }),
  (254, { cls := Value.type "tuple", data := Data.seq #[] }),
  (256, { cls := Value.type "code", data := Data.fields #[Value.str (Str.ofString "static_order") 623, Value.str (Str.ofString "TopologicalSorter.static_order") 624, Value.str (Str.ofString "/claim/cut.py") 625, Value.int 246 0, Value.int 1 0, Value.int 0 0, Value.int 0 0, Value.int 3 0, Value.ref 251, Value.bool true, Value.int 276 0, Value.ref 252, Value.none, Value.ref 253, Value.ref 254, Value.ref 255, Value.int 627 0, Value.int 246 0, Value.str (Str.ofString "/claim/cut.py") 628] }),
  (257, fnO (stC 29 9) (Str.ofString "TopologicalSorter.static_order") (3) ([]) (Value.none) (Value.none) (Value.none) (Value.str (Str.ofString "cpy313.graphlib") 460) (none) (Value.ref 256) (Value.none) (0)),
  (258, { cls := Value.type "tuple", data := Data.seq #[Value.str (Str.ofString "_nfinished") 630, Value.str (Str.ofString "_node2info") 631, Value.str (Str.ofString "_npassedout") 632, Value.str (Str.ofString "_ready_nodes") 633] }),
  (259, { cls := Value.type "dict", data := Data.dict #[{ hash := PyData.keyHash P (Str.ofString "__module__"), key := Value.str (Str.ofString "__module__") 530, val := Value.str (Str.ofString "cpy313.graphlib") 460 }, { hash := PyData.keyHash P (Str.ofString "__firstlineno__"), key := Value.str (Str.ofString "__firstlineno__") 534, val := Value.int 142 533 }, { hash := PyData.keyHash P (Str.ofString "__init__"), key := Value.str (Str.ofString "__init__") 544, val := Value.ref 196 }, { hash := PyData.keyHash P (Str.ofString "_get_nodeinfo"), key := Value.str (Str.ofString "_get_nodeinfo") 553, val := Value.ref 203 }, { hash := PyData.keyHash P (Str.ofString "add"), key := Value.str (Str.ofString "add") 565, val := Value.ref 210 }, { hash := PyData.keyHash P (Str.ofString "prepare"), key := Value.str (Str.ofString "prepare") 571, val := Value.ref 215 }, { hash := PyData.keyHash P (Str.ofString "get_ready"), key := Value.str (Str.ofString "get_ready") 581, val := Value.ref 222 }, { hash := PyData.keyHash P (Str.ofString "is_active"), key := Value.str (Str.ofString "is_active") 588, val := Value.ref 229 }, { hash := PyData.keyHash P (Str.ofString "__bool__"), key := Value.str (Str.ofString "__bool__") 595, val := Value.ref 236 }, { hash := PyData.keyHash P (Str.ofString "done"), key := Value.str (Str.ofString "done") 609, val := Value.ref 243 }, { hash := PyData.keyHash P (Str.ofString "_find_cycle"), key := Value.str (Str.ofString "_find_cycle") 622, val := Value.ref 250 }, { hash := PyData.keyHash P (Str.ofString "static_order"), key := Value.str (Str.ofString "static_order") 629, val := Value.ref 257 }, { hash := PyData.keyHash P (Str.ofString "__static_attributes__"), key := Value.str (Str.ofString "__static_attributes__") 634, val := Value.ref 258 }, { hash := PyData.keyHash P (Str.ofString "__dict__"), key := Value.str (Str.ofString "__dict__") 636, val := Value.ref 261 }, { hash := PyData.keyHash P (Str.ofString "__weakref__"), key := Value.str (Str.ofString "__weakref__") 638, val := Value.ref 262 }, { hash := PyData.keyHash P (Str.ofString "__doc__"), key := Value.str (Str.ofString "__doc__") 639, val := Value.none }] 4 }),
  (260, { cls := Value.type "type", data := Data.cls { name := Str.ofString "TopologicalSorter", bases := [Value.type "object"], mro := [Value.ref 260, Value.type "object"], ns := 259, qualname := Str.ofString "TopologicalSorter" }, slots := #[none, none, some (Value.str (Str.ofString "TopologicalSorter") 523), some (Value.str (Str.ofString "TopologicalSorter") 531), some (Value.builtin "object.__new__"), some (Value.bool true)] }),
  (261, { cls := Value.type "getset_descriptor", data := Data.fields #[Value.str (Str.ofString "__dict__") 635, Value.ref 260, Value.builtin "function.__dict__", Value.builtin "function.__dict__#set"] }),
  (262, { cls := Value.type "getset_descriptor", data := Data.fields #[Value.str (Str.ofString "__weakref__") 637, Value.ref 260, Value.builtin "ExceptionGroup.__weakref__", Value.none] }),
  (265, { cls := Value.type "tuple", data := Data.seq #[] }),
  (268, { cls := Value.type "code", data := Data.fields #[Value.str (Str.ofString "_law_octets") 644, Value.str (Str.ofString "_law_octets") 645, Value.str (Str.ofString "/claim/cut.py") 646, Value.int 249 0, Value.int 1 0, Value.int 0 0, Value.int 0 0, Value.int 3 0, Value.ref 265, Value.bool true, Value.int 276 0, Value.ref 266, Value.none, Value.none, Value.none, Value.ref 267, Value.int 647 0, Value.int 249 0, Value.str (Str.ofString "/claim/cut.py") 648] }),
  (269, fnO (stA 31) (Str.ofString "_law_octets") (3) ([]) (Value.none) (Value.none) (Value.none) (Value.str (Str.ofString "law_pa0056_01") 642) (none) (Value.ref 268) (Value.none) (0)),
  (270, { cls := Value.type "tuple", data := Data.seq #[] }),
  (273, { cls := Value.type "code", data := Data.fields #[Value.str (Str.ofString "_law_turn") 650, Value.str (Str.ofString "_law_turn") 651, Value.str (Str.ofString "/claim/cut.py") 652, Value.int 253 0, Value.int 1 0, Value.int 0 0, Value.int 0 0, Value.int 3 0, Value.ref 270, Value.bool true, Value.int 276 0, Value.ref 271, Value.none, Value.none, Value.none, Value.ref 272, Value.int 653 0, Value.int 253 0, Value.str (Str.ofString "/claim/cut.py") 654] }),
  (274, fnO (stA 32) (Str.ofString "_law_turn") (3) ([]) (Value.none) (Value.none) (Value.none) (Value.str (Str.ofString "law_pa0056_01") 642) (none) (Value.ref 273) (Value.none) (0)),
  (275, { cls := Value.type "tuple", data := Data.seq #[] }),
  (278, { cls := Value.type "code", data := Data.fields #[Value.str (Str.ofString "_law_served") 656, Value.str (Str.ofString "_law_served") 657, Value.str (Str.ofString "/claim/cut.py") 658, Value.int 261 0, Value.int 4 0, Value.int 0 0, Value.int 0 0, Value.int 3 0, Value.ref 275, Value.bool true, Value.int 276 0, Value.ref 276, Value.none, Value.none, Value.none, Value.ref 277, Value.int 659 0, Value.int 261 0, Value.str (Str.ofString "/claim/cut.py") 660] }),
  (279, fnO (stA 33) (Str.ofString "_law_served") (3) ([]) (Value.none) (Value.none) (Value.none) (Value.str (Str.ofString "law_pa0056_01") 642) (none) (Value.ref 278) (Value.none) (0)),
  (280, { cls := Value.type "tuple", data := Data.seq #[] }),
  (283, { cls := Value.type "code", data := Data.fields #[Value.str (Str.ofString "_law_handed") 662, Value.str (Str.ofString "_law_handed") 663, Value.str (Str.ofString "/claim/cut.py") 664, Value.int 275 0, Value.int 1 0, Value.int 0 0, Value.int 0 0, Value.int 3 0, Value.ref 280, Value.bool true, Value.int 276 0, Value.ref 281, Value.none, Value.none, Value.none, Value.ref 282, Value.int 665 0, Value.int 275 0, Value.str (Str.ofString "/claim/cut.py") 666] }),
  (284, fnO (stA 34) (Str.ofString "_law_handed") (3) ([]) (Value.none) (Value.none) (Value.none) (Value.str (Str.ofString "law_pa0056_01") 642) (none) (Value.ref 283) (Value.none) (0)),
  (285, { cls := Value.type "tuple", data := Data.seq #[] }),
  (288, { cls := Value.type "code", data := Data.fields #[Value.str (Str.ofString "law") 668, Value.str (Str.ofString "law") 669, Value.str (Str.ofString "/claim/cut.py") 670, Value.int 285 0, Value.int 1 0, Value.int 0 0, Value.int 0 0, Value.int 3 0, Value.ref 285, Value.bool true, Value.int 276 0, Value.ref 286, Value.none, Value.none, Value.none, Value.ref 287, Value.int 671 0, Value.int 285 0, Value.str (Str.ofString "/claim/cut.py") 672] }),
  (289, fnO (stA 35) (Str.ofString "law") (3) ([]) (Value.none) (Value.none) (Value.none) (Value.str (Str.ofString "law_pa0056_01") 642) (none) (Value.ref 288) (Value.none) (0))]
noncomputable def addrL : List Addr := [2, 3, 32, 34, 35, 37, 38, 39, 41, 42, 44, 45, 46, 48, 49, 51, 52, 53, 55, 56, 58, 59, 60, 62, 63, 65, 66, 70, 71, 72, 73, 75, 76, 78, 79, 80, 87, 88, 89, 90, 93, 95, 96, 98, 99, 100, 102, 103, 105, 106, 107, 108, 109, 111, 112, 114, 115, 116, 118, 119, 121, 122, 123, 125, 126, 128, 129, 130, 132, 133, 135, 136, 137, 138, 140, 141, 143, 144, 152, 153, 155, 156, 158, 159, 160, 162, 163, 164, 165, 166, 169, 176, 177, 178, 179, 189, 190, 192, 193, 195, 196, 197, 199, 200, 202, 203, 204, 206, 207, 209, 210, 211, 214, 215, 216, 218, 219, 221, 222, 223, 225, 226, 228, 229, 230, 232, 233, 235, 236, 237, 239, 240, 242, 243, 244, 246, 247, 249, 250, 251, 253, 254, 256, 257, 258, 259, 260, 261, 262, 265, 268, 269, 270, 273, 274, 275, 278, 279, 280, 283, 284, 285, 288, 289]

noncomputable def vw : Program := view PySem.Challenge.pw_pa0056_01 keepL
theorem addr_ok (P : Params) : addrL = (frag P).map (·.1) := by kernel_rfl
noncomputable abbrev kH : Hook := kHook frag addrL addr_ok
noncomputable def looseL : List Str := ["_twin_re_1", "bytes_types", "_NO_SEP", "b2a_hex", "hexlify", "unhexlify", "b16decode", "_NodeInfo"]
namespace Hd
noncomputable def unC (o : Obj) : Obj := { o with cls := .none }
noncomputable def o1 (P : Params) : Obj := { cls := Value.type "dict", data := Data.dict #[{ hash := PyData.keyHash P (Str.ofString "builtins"), key := Value.str (Str.ofString "builtins") 162, val := Value.ref 4 }, { hash := PyData.keyHash P (Str.ofString "__main__"), key := Value.str (Str.ofString "__main__") 163, val := Value.ref 5 }, { hash := PyData.keyHash P (Str.ofString "_sre"), key := Value.str (Str.ofString "_sre") 244, val := Value.ref 12 }] 3 }
noncomputable def o2 (P : Params) : Obj := { cls := Value.none, data := Data.dict #[{ hash := PyData.keyHash P (Str.ofString "\x69mport.loaded._sre"), key := Value.str (Str.ofString "\x69mport.loaded._sre") 183, val := Value.bool true }, { hash := PyData.keyHash P (Str.ofString "class._frozen_importlib.BuiltinImporter"), key := Value.str (Str.ofString "class._frozen_importlib.BuiltinImporter") 185, val := Value.ref 14 }, { hash := PyData.keyHash P (Str.ofString "watched.\x69mport"), key := Value.str (Str.ofString "watched.\x69mport") 206, val := Value.ref 18 }, { hash := PyData.keyHash P (Str.ofString "class._frozen_importlib.ModuleSpec"), key := Value.str (Str.ofString "class._frozen_importlib.ModuleSpec") 216, val := Value.ref 22 }, { hash := PyData.keyHash P (Str.ofString "sys.modules.booked-epoch"), key := Value.str (Str.ofString "sys.modules.booked-epoch") 245, val := Value.int 3 0 }, { hash := PyData.keyHash P (Str.ofString "\x69mport.later-laid._sre"), key := Value.str (Str.ofString "\x69mport.later-laid._sre") 270, val := Value.bool true }, { hash := PyData.keyHash P (Str.ofString "watched.library"), key := Value.str (Str.ofString "watched.library") 272, val := Value.ref 27 }, { hash := PyData.keyHash P (Str.ofString "watched.library-objects"), key := Value.str (Str.ofString "watched.library-objects") 0, val := Value.str (Str.ofString "\x0c") 0 }, { hash := PyData.keyHash P (Str.ofString "watched.library-deep._sre"), key := Value.str (Str.ofString "watched.library-deep._sre") 273, val := Value.str (Str.ofString "\x04\x00\x00\x0b\x04\x00\x00\x0b\x04\x00\x00\x03\x04\x00\x00\x0b\x08\x04dict\x02") 0 }] 9 }
noncomputable def o3 (P : Params) : Obj := { cls := Value.type "dict", data := Data.dict #[{ hash := PyData.keyHash P (Str.ofString "__name__"), key := Value.str (Str.ofString "__name__") 165, val := Value.str (Str.ofString "__main__") 164 }, { hash := PyData.keyHash P (Str.ofString "__doc__"), key := Value.str (Str.ofString "__doc__") 166, val := Value.none }, { hash := PyData.keyHash P (Str.ofString "__package__"), key := Value.str (Str.ofString "__package__") 167, val := Value.none }, { hash := PyData.keyHash P (Str.ofString "__loader__"), key := Value.str (Str.ofString "__loader__") 168, val := Value.builtin "__main__.__loader__#opaque" }, { hash := PyData.keyHash P (Str.ofString "__spec__"), key := Value.str (Str.ofString "__spec__") 169, val := Value.none }, { hash := PyData.keyHash P (Str.ofString "__annotations__"), key := Value.str (Str.ofString "__annotations__") 170, val := Value.ref 6 }, { hash := PyData.keyHash P (Str.ofString "__builtins__"), key := Value.str (Str.ofString "__builtins__") 171, val := Value.ref 4 }, { hash := PyData.keyHash P (Str.ofString "__file__"), key := Value.str (Str.ofString "__file__") 173, val := Value.str (Str.ofString "/claim/cut.py") 172 }, { hash := PyData.keyHash P (Str.ofString "__cached__"), key := Value.str (Str.ofString "__cached__") 174, val := Value.none }, { hash := PyData.keyHash P (Str.ofString "_sre"), key := Value.str (Str.ofString "_sre") 275, val := Value.ref 12 }] 10 }
noncomputable def o11 (P : Params) : Obj := { cls := Value.type "dict", data := Data.dict #[{ hash := PyData.keyHash P (Str.ofString "__name__"), key := Value.str (Str.ofString "__name__") 247, val := Value.str (Str.ofString "_sre") 246 }, { hash := PyData.keyHash P (Str.ofString "__doc__"), key := Value.str (Str.ofString "__doc__") 248, val := Value.none }, { hash := PyData.keyHash P (Str.ofString "__package__"), key := Value.str (Str.ofString "__package__") 250, val := Value.str (Str.ofString "") 249 }, { hash := PyData.keyHash P (Str.ofString "__loader__"), key := Value.str (Str.ofString "__loader__") 251, val := Value.builtin "off-the-table:_sre.__loader__:shared#opaque" }, { hash := PyData.keyHash P (Str.ofString "__spec__"), key := Value.str (Str.ofString "__spec__") 252, val := Value.builtin "off-the-table:_sre.__spec__:shared#opaque" }, { hash := PyData.keyHash P (Str.ofString "compile"), key := Value.str (Str.ofString "compile") 253, val := Value.builtin "_sre.compile" }, { hash := PyData.keyHash P (Str.ofString "template"), key := Value.str (Str.ofString "template") 254, val := Value.builtin "off-the-table:_sre.template:shared#opaque" }, { hash := PyData.keyHash P (Str.ofString "getcodesize"), key := Value.str (Str.ofString "getcodesize") 255, val := Value.builtin "off-the-table:_sre.getcodesize:shared#opaque" }, { hash := PyData.keyHash P (Str.ofString "ascii_iscased"), key := Value.str (Str.ofString "ascii_iscased") 256, val := Value.builtin "off-the-table:_sre.ascii_iscased:shared#opaque" }, { hash := PyData.keyHash P (Str.ofString "unicode_iscased"), key := Value.str (Str.ofString "unicode_iscased") 257, val := Value.builtin "off-the-table:_sre.unicode_iscased:shared#opaque" }, { hash := PyData.keyHash P (Str.ofString "ascii_tolower"), key := Value.str (Str.ofString "ascii_tolower") 258, val := Value.builtin "off-the-table:_sre.ascii_tolower:shared#opaque" }, { hash := PyData.keyHash P (Str.ofString "unicode_tolower"), key := Value.str (Str.ofString "unicode_tolower") 259, val := Value.builtin "off-the-table:_sre.unicode_tolower:shared#opaque" }, { hash := PyData.keyHash P (Str.ofString "MAGIC"), key := Value.str (Str.ofString "MAGIC") 261, val := Value.int 20230612 260 }, { hash := PyData.keyHash P (Str.ofString "CODESIZE"), key := Value.str (Str.ofString "CODESIZE") 263, val := Value.int 4 262 }, { hash := PyData.keyHash P (Str.ofString "MAXREPEAT"), key := Value.str (Str.ofString "MAXREPEAT") 265, val := Value.int 4294967295 264 }, { hash := PyData.keyHash P (Str.ofString "MAXGROUPS"), key := Value.str (Str.ofString "MAXGROUPS") 267, val := Value.int 1073741823 266 }, { hash := PyData.keyHash P (Str.ofString "copyright"), key := Value.str (Str.ofString "copyright") 269, val := Value.str (Str.ofString " SRE 2.2.2 Copyright (c) 1997-2002 by Secret Labs AB ") 268 }] 17 }
noncomputable def o12 (P : Params) : Obj := { cls := Value.type "module", dict := some 11 }
noncomputable def o13 (P : Params) : Obj := { cls := Value.type "dict", data := Data.dict #[{ hash := PyData.keyHash P (Str.ofString "__module__"), key := Value.str (Str.ofString "__module__") 189, val := Value.str (Str.ofString "_frozen_importlib") 186 }, { hash := PyData.keyHash P (Str.ofString "__firstlineno__"), key := Value.str (Str.ofString "__firstlineno__") 190, val := Value.int 971 187 }, { hash := PyData.keyHash P (Str.ofString "__doc__"), key := Value.str (Str.ofString "__doc__") 191, val := Value.builtin "_frozen_importlib.BuiltinImporter.__doc__:str#opaque" }, { hash := PyData.keyHash P (Str.ofString "_ORIGIN"), key := Value.str (Str.ofString "_ORIGIN") 192, val := Value.str (Str.ofString "built-in") 188 }, { hash := PyData.keyHash P (Str.ofString "find_spec"), key := Value.str (Str.ofString "find_spec") 193, val := Value.builtin "_frozen_importlib.BuiltinImporter.find_spec#opaque" }, { hash := PyData.keyHash P (Str.ofString "create_module"), key := Value.str (Str.ofString "create_module") 194, val := Value.builtin "_frozen_importlib.BuiltinImporter.create_module#opaque" }, { hash := PyData.keyHash P (Str.ofString "exec_module"), key := Value.str (Str.ofString "exec_module") 195, val := Value.builtin "_frozen_importlib.BuiltinImporter.exec_module#opaque" }, { hash := PyData.keyHash P (Str.ofString "get_code"), key := Value.str (Str.ofString "get_code") 196, val := Value.builtin "_frozen_importlib.BuiltinImporter.get_code#opaque" }, { hash := PyData.keyHash P (Str.ofString "get_source"), key := Value.str (Str.ofString "get_source") 197, val := Value.builtin "_frozen_importlib.BuiltinImporter.get_source#opaque" }, { hash := PyData.keyHash P (Str.ofString "is_package"), key := Value.str (Str.ofString "is_package") 198, val := Value.builtin "_frozen_importlib.BuiltinImporter.is_package#opaque" }, { hash := PyData.keyHash P (Str.ofString "load_module"), key := Value.str (Str.ofString "load_module") 199, val := Value.builtin "_frozen_importlib.BuiltinImporter.load_module#opaque" }, { hash := PyData.keyHash P (Str.ofString "__static_attributes__"), key := Value.str (Str.ofString "__static_attributes__") 200, val := Value.ref 15 }, { hash := PyData.keyHash P (Str.ofString "__dict__"), key := Value.str (Str.ofString "__dict__") 202, val := Value.ref 16 }, { hash := PyData.keyHash P (Str.ofString "__weakref__"), key := Value.str (Str.ofString "__weakref__") 204, val := Value.ref 17 }] 14 }
noncomputable def o14 (P : Params) : Obj := { cls := Value.type "type", data := Data.cls { name := Str.ofString "BuiltinImporter", bases := [Value.type "object"], mro := [Value.ref 14, Value.type "object"], ns := 13, qualname := Str.ofString "BuiltinImporter" } }
noncomputable def o16 (P : Params) : Obj := { cls := Value.type "getset_descriptor", data := Data.fields #[Value.str (Str.ofString "__dict__") 201, Value.ref 14, Value.builtin "function.__dict__", Value.builtin "function.__dict__#set"] }
noncomputable def o17 (P : Params) : Obj := { cls := Value.type "getset_descriptor", data := Data.fields #[Value.str (Str.ofString "__weakref__") 203, Value.ref 14, Value.builtin "ExceptionGroup.__weakref__", Value.none] }
noncomputable def o18 (P : Params) : Obj := { cls := Value.none, data := Data.seq #[Value.int 13 0, Value.str { cps := #[6, 189, 10, 95, 95, 109, 111, 100, 117, 108, 101, 95, 95, 6, 186, 17, 95, 102, 114, 111, 122, 101, 110, 95, 105, 109, 112, 111, 114, 116, 108, 105, 98, 6, 190, 15, 95, 95, 102, 105, 114, 115, 116, 108, 105, 110, 101, 110, 111, 95, 95, 4, 187, 0, 971, 6, 191, 7, 95, 95, 100, 111, 99, 95, 95, 9, 52, 95, 102, 114, 111, 122, 101, 110, 95, 105, 109, 112, 111, 114, 116, 108, 105, 98, 46, 66, 117, 105, 108, 116, 105, 110, 73, 109, 112, 111, 114, 116, 101, 114, 46, 95, 95, 100, 111, 99, 95, 95, 58, 115, 116, 114, 35, 111, 112, 97, 113, 117, 101, 6, 192, 7, 95, 79, 82, 73, 71, 73, 78, 6, 188, 8, 98, 117, 105, 108, 116, 45, 105, 110, 6, 193, 9, 102, 105, 110, 100, 95, 115, 112, 101, 99, 9, 50, 95, 102, 114, 111, 122, 101, 110, 95, 105, 109, 112, 111, 114, 116, 108, 105, 98, 46, 66, 117, 105, 108, 116, 105, 110, 73, 109, 112, 111, 114, 116, 101, 114, 46, 102, 105, 110, 100, 95, 115, 112, 101, 99, 35, 111, 112, 97, 113, 117, 101, 6, 194, 13, 99, 114, 101, 97, 116, 101, 95, 109, 111, 100, 117, 108, 101, 9, 54, 95, 102, 114, 111, 122, 101, 110, 95, 105, 109, 112, 111, 114, 116, 108, 105, 98, 46, 66, 117, 105, 108, 116, 105, 110, 73, 109, 112, 111, 114, 116, 101, 114, 46, 99, 114, 101, 97, 116, 101, 95, 109, 111, 100, 117, 108, 101, 35, 111, 112, 97, 113, 117, 101, 6, 195, 11, 101, 120, 101, 99, 95, 109, 111, 100, 117, 108, 101, 9, 52, 95, 102, 114, 111, 122, 101, 110, 95, 105, 109, 112, 111, 114, 116, 108, 105, 98, 46, 66, 117, 105, 108, 116, 105, 110, 73, 109, 112, 111, 114, 116, 101, 114, 46, 101, 120, 101, 99, 95, 109, 111, 100, 117, 108, 101, 35, 111, 112, 97, 113, 117, 101, 6, 196, 8, 103, 101, 116, 95, 99, 111, 100, 101, 9, 49, 95, 102, 114, 111, 122, 101, 110, 95, 105, 109, 112, 111, 114, 116, 108, 105, 98, 46, 66, 117, 105, 108, 116, 105, 110, 73, 109, 112, 111, 114, 116, 101, 114, 46, 103, 101, 116, 95, 99, 111, 100, 101, 35, 111, 112, 97, 113, 117, 101, 6, 197, 10, 103, 101, 116, 95, 115, 111, 117, 114, 99, 101, 9, 51, 95, 102, 114, 111, 122, 101, 110, 95, 105, 109, 112, 111, 114, 116, 108, 105, 98, 46, 66, 117, 105, 108, 116, 105, 110, 73, 109, 112, 111, 114, 116, 101, 114, 46, 103, 101, 116, 95, 115, 111, 117, 114, 99, 101, 35, 111, 112, 97, 113, 117, 101, 6, 198, 10, 105, 115, 95, 112, 97, 99, 107, 97, 103, 101, 9, 51, 95, 102, 114, 111, 122, 101, 110, 95, 105, 109, 112, 111, 114, 116, 108, 105, 98, 46, 66, 117, 105, 108, 116, 105, 110, 73, 109, 112, 111, 114, 116, 101, 114, 46, 105, 115, 95, 112, 97, 99, 107, 97, 103, 101, 35, 111, 112, 97, 113, 117, 101, 6, 199, 11, 108, 111, 97, 100, 95, 109, 111, 100, 117, 108, 101, 9, 52, 95, 102, 114, 111, 122, 101, 110, 95, 105, 109, 112, 111, 114, 116, 108, 105, 98, 46, 66, 117, 105, 108, 116, 105, 110, 73, 109, 112, 111, 114, 116, 101, 114, 46, 108, 111, 97, 100, 95, 109, 111, 100, 117, 108, 101, 35, 111, 112, 97, 113, 117, 101, 6, 200, 21, 95, 95, 115, 116, 97, 116, 105, 99, 95, 97, 116, 116, 114, 105, 98, 117, 116, 101, 115, 95, 95, 4, 0, 0, 15, 6, 202, 8, 95, 95, 100, 105, 99, 116, 95, 95, 4, 0, 0, 16, 6, 204, 11, 95, 95, 119, 101, 97, 107, 114, 101, 102, 95, 95, 4, 0, 0, 17] } 0, Value.bool true, Value.bool true, Value.str (Str.ofString "") 205, Value.int 21 0, Value.str { cps := #[6, 227, 10, 95, 95, 109, 111, 100, 117, 108, 101, 95, 95, 6, 217, 17, 95, 102, 114, 111, 122, 101, 110, 95, 105, 109, 112, 111, 114, 116, 108, 105, 98, 6, 228, 15, 95, 95, 102, 105, 114, 115, 116, 108, 105, 110, 101, 110, 111, 95, 95, 4, 218, 0, 562, 6, 229, 7, 95, 95, 100, 111, 99, 95, 95, 9, 47, 95, 102, 114, 111, 122, 101, 110, 95, 105, 109, 112, 111, 114, 116, 108, 105, 98, 46, 77, 111, 100, 117, 108, 101, 83, 112, 101, 99, 46, 95, 95, 100, 111, 99, 95, 95, 58, 115, 116, 114, 35, 111, 112, 97, 113, 117, 101, 6, 230, 8, 95, 95, 105, 110, 105, 116, 95, 95, 9, 44, 95, 102, 114, 111, 122, 101, 110, 95, 105, 109, 112, 111, 114, 116, 108, 105, 98, 46, 77, 111, 100, 117, 108, 101, 83, 112, 101, 99, 46, 95, 95, 105, 110, 105, 116, 95, 95, 35, 111, 112, 97, 113, 117, 101, 6, 231, 8, 95, 95, 114, 101, 112, 114, 95, 95, 9, 44, 95, 102, 114, 111, 122, 101, 110, 95, 105, 109, 112, 111, 114, 116, 108, 105, 98, 46, 77, 111, 100, 117, 108, 101, 83, 112, 101, 99, 46, 95, 95, 114, 101, 112, 114, 95, 95, 35, 111, 112, 97, 113, 117, 101, 6, 232, 6, 95, 95, 101, 113, 95, 95, 9, 42, 95, 102, 114, 111, 122, 101, 110, 95, 105, 109, 112, 111, 114, 116, 108, 105, 98, 46, 77, 111, 100, 117, 108, 101, 83, 112, 101, 99, 46, 95, 95, 101, 113, 95, 95, 35, 111, 112, 97, 113, 117, 101, 6, 233, 6, 99, 97, 99, 104, 101, 100, 9, 42, 95, 102, 114, 111, 122, 101, 110, 95, 105, 109, 112, 111, 114, 116, 108, 105, 98, 46, 77, 111, 100, 117, 108, 101, 83, 112, 101, 99, 46, 99, 97, 99, 104, 101, 100, 35, 111, 112, 97, 113, 117, 101, 6, 234, 6, 112, 97, 114, 101, 110, 116, 9, 42, 95, 102, 114, 111, 122, 101, 110, 95, 105, 109, 112, 111, 114, 116, 108, 105, 98, 46, 77, 111, 100, 117, 108, 101, 83, 112, 101, 99, 46, 112, 97, 114, 101, 110, 116, 35, 111, 112, 97, 113, 117, 101, 6, 235, 12, 104, 97, 115, 95, 108, 111, 99, 97, 116, 105, 111, 110, 9, 48, 95, 102, 114, 111, 122, 101, 110, 95, 105, 109, 112, 111, 114, 116, 108, 105, 98, 46, 77, 111, 100, 117, 108, 101, 83, 112, 101, 99, 46, 104, 97, 115, 95, 108, 111, 99, 97, 116, 105, 111, 110, 35, 111, 112, 97, 113, 117, 101, 6, 236, 21, 95, 95, 115, 116, 97, 116, 105, 99, 95, 97, 116, 116, 114, 105, 98, 117, 116, 101, 115, 95, 95, 4, 0, 0, 23, 6, 238, 8, 95, 95, 100, 105, 99, 116, 95, 95, 4, 0, 0, 24, 6, 240, 11, 95, 95, 119, 101, 97, 107, 114, 101, 102, 95, 95, 4, 0, 0, 25, 6, 241, 8, 95, 95, 104, 97, 115, 104, 95, 95, 0] } 0, Value.bool true, Value.bool true, Value.str (Str.ofString "") 242] 1 }
noncomputable def o19 (P : Params) : Obj := { cls := Value.type "list", data := Data.seq #[] }
noncomputable def o20 (P : Params) : Obj := { cls := Value.type "dict", data := Data.dict #[{ hash := PyData.keyHash P (Str.ofString "name"), key := Value.str (Str.ofString "name") 208, val := Value.str (Str.ofString "_sre") 207 }, { hash := PyData.keyHash P (Str.ofString "loader"), key := Value.str (Str.ofString "loader") 209, val := Value.ref 14 }, { hash := PyData.keyHash P (Str.ofString "origin"), key := Value.str (Str.ofString "origin") 210, val := Value.str (Str.ofString "built-in") 184 }, { hash := PyData.keyHash P (Str.ofString "loader_state"), key := Value.str (Str.ofString "loader_state") 211, val := Value.none }, { hash := PyData.keyHash P (Str.ofString "submodule_search_locations"), key := Value.str (Str.ofString "submodule_search_locations") 212, val := Value.none }, { hash := PyData.keyHash P (Str.ofString "_uninitialized_submodules"), key := Value.str (Str.ofString "_uninitialized_submodules") 213, val := Value.ref 19 }, { hash := PyData.keyHash P (Str.ofString "_set_fileattr"), key := Value.str (Str.ofString "_set_fileattr") 214, val := Value.bool false }, { hash := PyData.keyHash P (Str.ofString "_cached"), key := Value.str (Str.ofString "_cached") 215, val := Value.none }, { hash := PyData.keyHash P (Str.ofString "_initializing"), key := Value.str (Str.ofString "_initializing") 243, val := Value.bool false }] 9 }
noncomputable def o21 (P : Params) : Obj := { cls := Value.type "dict", data := Data.dict #[{ hash := PyData.keyHash P (Str.ofString "__module__"), key := Value.str (Str.ofString "__module__") 227, val := Value.str (Str.ofString "_frozen_importlib") 217 }, { hash := PyData.keyHash P (Str.ofString "__firstlineno__"), key := Value.str (Str.ofString "__firstlineno__") 228, val := Value.int 562 218 }, { hash := PyData.keyHash P (Str.ofString "__doc__"), key := Value.str (Str.ofString "__doc__") 229, val := Value.builtin "_frozen_importlib.ModuleSpec.__doc__:str#opaque" }, { hash := PyData.keyHash P (Str.ofString "__init__"), key := Value.str (Str.ofString "__init__") 230, val := Value.builtin "_frozen_importlib.ModuleSpec.__init__#opaque" }, { hash := PyData.keyHash P (Str.ofString "__repr__"), key := Value.str (Str.ofString "__repr__") 231, val := Value.builtin "_frozen_importlib.ModuleSpec.__repr__#opaque" }, { hash := PyData.keyHash P (Str.ofString "__eq__"), key := Value.str (Str.ofString "__eq__") 232, val := Value.builtin "_frozen_importlib.ModuleSpec.__eq__#opaque" }, { hash := PyData.keyHash P (Str.ofString "cached"), key := Value.str (Str.ofString "cached") 233, val := Value.builtin "_frozen_importlib.ModuleSpec.cached#opaque" }, { hash := PyData.keyHash P (Str.ofString "parent"), key := Value.str (Str.ofString "parent") 234, val := Value.builtin "_frozen_importlib.ModuleSpec.parent#opaque" }, { hash := PyData.keyHash P (Str.ofString "has_location"), key := Value.str (Str.ofString "has_location") 235, val := Value.builtin "_frozen_importlib.ModuleSpec.has_location#opaque" }, { hash := PyData.keyHash P (Str.ofString "__static_attributes__"), key := Value.str (Str.ofString "__static_attributes__") 236, val := Value.ref 23 }, { hash := PyData.keyHash P (Str.ofString "__dict__"), key := Value.str (Str.ofString "__dict__") 238, val := Value.ref 24 }, { hash := PyData.keyHash P (Str.ofString "__weakref__"), key := Value.str (Str.ofString "__weakref__") 240, val := Value.ref 25 }, { hash := PyData.keyHash P (Str.ofString "__hash__"), key := Value.str (Str.ofString "__hash__") 241, val := Value.none }] 13 }
noncomputable def o22 (P : Params) : Obj := { cls := Value.type "type", data := Data.cls { name := Str.ofString "ModuleSpec", bases := [Value.type "object"], mro := [Value.ref 22, Value.type "object"], ns := 21, qualname := Str.ofString "ModuleSpec" } }
noncomputable def o23 (P : Params) : Obj := { cls := Value.type "tuple", data := Data.seq #[Value.str (Str.ofString "_cached") 219, Value.str (Str.ofString "_set_fileattr") 220, Value.str (Str.ofString "_uninitialized_submodules") 221, Value.str (Str.ofString "loader") 222, Value.str (Str.ofString "loader_state") 223, Value.str (Str.ofString "name") 224, Value.str (Str.ofString "origin") 225, Value.str (Str.ofString "submodule_search_locations") 226] }
noncomputable def o24 (P : Params) : Obj := { cls := Value.type "getset_descriptor", data := Data.fields #[Value.str (Str.ofString "__dict__") 237, Value.ref 22, Value.builtin "function.__dict__", Value.builtin "function.__dict__#set"] }
noncomputable def o25 (P : Params) : Obj := { cls := Value.type "getset_descriptor", data := Data.fields #[Value.str (Str.ofString "__weakref__") 239, Value.ref 22, Value.builtin "ExceptionGroup.__weakref__", Value.none] }
noncomputable def o26 (P : Params) : Obj := { cls := Value.ref 22, dict := some 20 }
noncomputable def o27 (P : Params) : Obj := { cls := Value.none, data := Data.seq #[Value.int 11 0, Value.str { cps := #[6, 247, 8, 95, 95, 110, 97, 109, 101, 95, 95, 6, 246, 4, 95, 115, 114, 101, 6, 248, 7, 95, 95, 100, 111, 99, 95, 95, 0, 6, 250, 11, 95, 95, 112, 97, 99, 107, 97, 103, 101, 95, 95, 6, 249, 0, 6, 251, 10, 95, 95, 108, 111, 97, 100, 101, 114, 95, 95, 4, 0, 0, 14, 6, 252, 8, 95, 95, 115, 112, 101, 99, 95, 95, 4, 0, 0, 26, 6, 253, 7, 99, 111, 109, 112, 105, 108, 101, 9, 12, 95, 115, 114, 101, 46, 99, 111, 109, 112, 105, 108, 101, 6, 254, 8, 116, 101, 109, 112, 108, 97, 116, 101, 9, 13, 95, 115, 114, 101, 46, 116, 101, 109, 112, 108, 97, 116, 101, 6, 255, 11, 103, 101, 116, 99, 111, 100, 101, 115, 105, 122, 101, 9, 16, 95, 115, 114, 101, 46, 103, 101, 116, 99, 111, 100, 101, 115, 105, 122, 101, 6, 256, 13, 97, 115, 99, 105, 105, 95, 105, 115, 99, 97, 115, 101, 100, 9, 18, 95, 115, 114, 101, 46, 97, 115, 99, 105, 105, 95, 105, 115, 99, 97, 115, 101, 100, 6, 257, 15, 117, 110, 105, 99, 111, 100, 101, 95, 105, 115, 99, 97, 115, 101, 100, 9, 20, 95, 115, 114, 101, 46, 117, 110, 105, 99, 111, 100, 101, 95, 105, 115, 99, 97, 115, 101, 100, 6, 258, 13, 97, 115, 99, 105, 105, 95, 116, 111, 108, 111, 119, 101, 114, 9, 18, 95, 115, 114, 101, 46, 97, 115, 99, 105, 105, 95, 116, 111, 108, 111, 119, 101, 114, 6, 259, 15, 117, 110, 105, 99, 111, 100, 101, 95, 116, 111, 108, 111, 119, 101, 114, 9, 20, 95, 115, 114, 101, 46, 117, 110, 105, 99, 111, 100, 101, 95, 116, 111, 108, 111, 119, 101, 114, 6, 261, 5, 77, 65, 71, 73, 67, 4, 260, 0, 20230612, 6, 263, 8, 67, 79, 68, 69, 83, 73, 90, 69, 4, 262, 0, 4, 6, 265, 9, 77, 65, 88, 82, 69, 80, 69, 65, 84, 4, 264, 0, 4294967295, 6, 267, 9, 77, 65, 88, 71, 82, 79, 85, 80, 83, 4, 266, 0, 1073741823, 6, 269, 9, 99, 111, 112, 121, 114, 105, 103, 104, 116, 6, 268, 53, 32, 83, 82, 69, 32, 50, 46, 50, 46, 50, 32, 67, 111, 112, 121, 114, 105, 103, 104, 116, 32, 40, 99, 41, 32, 49, 57, 57, 55, 45, 50, 48, 48, 50, 32, 98, 121, 32, 83, 101, 99, 114, 101, 116, 32, 76, 97, 98, 115, 32, 65, 66, 32] } 0, Value.bool true, Value.bool false, Value.str (Str.ofString "_sre") 271] }
noncomputable def o30 (P : Params) : Obj := { cls := Value.type "code", data := Data.fields #[Value.str (Str.ofString "<module>") 277, Value.str (Str.ofString "<module>") 278, Value.str (Str.ofString "/claim/cut.py") 279, Value.int 1 0, Value.int 0 0, Value.int 0 0, Value.int 0 0, Value.int 0 0, Value.ref 28, Value.bool false, Value.int 276 0, Value.ref 29, Value.none, Value.none, Value.none, Value.none, Value.int 280 0, Value.int 1 0, Value.str (Str.ofString "/claim/cut.py") 281] }
noncomputable def o31 (P : Params) : Obj := { cls := Value.type "frame", slots := #[some (Value.ref 30), some (Value.ref 3), some (Value.ref 3), none, some (Value.str (Str.ofString "__main__") 164), none, some (Value.ref 0)] }
noncomputable def o3v1 (P : Params) : Obj := { cls := Value.type "dict", data := Data.dict #[{ hash := PyData.keyHash P (Str.ofString "__name__"), key := Value.str (Str.ofString "__name__") 165, val := Value.str (Str.ofString "binascii") 373 }, { hash := PyData.keyHash P (Str.ofString "__doc__"), key := Value.str (Str.ofString "__doc__") 166, val := Value.none }, { hash := PyData.keyHash P (Str.ofString "__package__"), key := Value.str (Str.ofString "__package__") 167, val := Value.none }, { hash := PyData.keyHash P (Str.ofString "__loader__"), key := Value.str (Str.ofString "__loader__") 168, val := Value.builtin "__main__.__loader__#opaque" }, { hash := PyData.keyHash P (Str.ofString "__spec__"), key := Value.str (Str.ofString "__spec__") 169, val := Value.none }, { hash := PyData.keyHash P (Str.ofString "__annotations__"), key := Value.str (Str.ofString "__annotations__") 170, val := Value.ref 6 }, { hash := PyData.keyHash P (Str.ofString "__builtins__"), key := Value.str (Str.ofString "__builtins__") 171, val := Value.ref 4 }, { hash := PyData.keyHash P (Str.ofString "__file__"), key := Value.str (Str.ofString "__file__") 173, val := Value.str (Str.ofString "/claim/cut.py") 172 }, { hash := PyData.keyHash P (Str.ofString "__cached__"), key := Value.str (Str.ofString "__cached__") 174, val := Value.none }, { hash := PyData.keyHash P (Str.ofString "_sre"), key := Value.str (Str.ofString "_sre") 275, val := Value.ref 12 }, { hash := PyData.keyHash P (Str.ofString "_wall"), key := Value.str (Str.ofString "_wall") 288, val := Value.ref 38 }, { hash := PyData.keyHash P (Str.ofString "heappush"), key := Value.str (Str.ofString "heappush") 298, val := Value.ref 45 }, { hash := PyData.keyHash P (Str.ofString "heappop"), key := Value.str (Str.ofString "heappop") 307, val := Value.ref 52 }, { hash := PyData.keyHash P (Str.ofString "_siftdown"), key := Value.str (Str.ofString "_siftdown") 319, val := Value.ref 59 }, { hash := PyData.keyHash P (Str.ofString "_siftup"), key := Value.str (Str.ofString "_siftup") 332, val := Value.ref 66 }, { hash := PyData.keyHash P (Str.ofString "_twin_re_1"), key := Value.str (Str.ofString "_twin_re_1") 364, val := Value.ref 71 }, { hash := PyData.keyHash P (Str.ofString "bytes_types"), key := Value.str (Str.ofString "bytes_types") 365, val := Value.ref 72 }, { hash := PyData.keyHash P (Str.ofString "_bytes_from_decode_data"), key := Value.str (Str.ofString "_bytes_from_decode_data") 372, val := Value.ref 79 }, { hash := PyData.keyHash P (Str.ofString "Error"), key := Value.str (Str.ofString "Error") 392, val := Value.ref 89 }, { hash := PyData.keyHash P (Str.ofString "_ascii_buffer"), key := Value.str (Str.ofString "_ascii_buffer") 400, val := Value.ref 99 }] 20 }
noncomputable def o29 (P : Params) : Obj := { cls := Value.none, data := Data.fields #[Value.int 2 0, Value.int 0 0, Value.ref 37, Value.int 6 0, Value.int 0 0, Value.ref 44, Value.int 9 0, Value.int 0 0, Value.ref 51, Value.int 17 0, Value.int 0 0, Value.ref 58, Value.int 28 0, Value.int 0 0, Value.ref 65, Value.int 45 0, Value.int 0 0, Value.ref 78, Value.int 58 0, Value.int 0 0, Value.ref 85, Value.int 60 0, Value.int 0 0, Value.ref 98] }
noncomputable def o34 (P : Params) : Obj := { cls := Value.type "tuple", data := Data.seq #[Value.str (Str.ofString "k") 285] }
noncomputable def o36 (P : Params) : Obj := unC <| fnO (stA 1) (Str.ofString "_wall") (0) ([]) (Value.none) (Value.none) (Value.none) (Value.none) (none) (Value.none) (Value.none) (0)
noncomputable def o37 (P : Params) : Obj := { cls := Value.type "code", data := Data.fields #[Value.str (Str.ofString "_wall") 282, Value.str (Str.ofString "_wall") 283, Value.str (Str.ofString "/claim/cut.py") 284, Value.int 2 0, Value.int 1 0, Value.int 0 0, Value.int 0 0, Value.int 3 0, Value.ref 32, Value.bool true, Value.int 276 0, Value.ref 33, Value.none, Value.ref 34, Value.ref 35, Value.ref 36, Value.int 286 0, Value.int 2 0, Value.str (Str.ofString "/claim/cut.py") 287] }
noncomputable def o38 (P : Params) : Obj := fnO (stA 1) (Str.ofString "_wall") (3) ([]) (Value.none) (Value.none) (Value.none) (Value.str (Str.ofString "__main__") 164) (none) (Value.ref 37) (Value.none) (0)
noncomputable def o41 (P : Params) : Obj := { cls := Value.type "tuple", data := Data.seq #[Value.str (Str.ofString "heap") 294, Value.str (Str.ofString "item") 295] }
noncomputable def o43 (P : Params) : Obj := unC <| fnO (stA 3) (Str.ofString "heappush") (0) ([]) (Value.none) (Value.none) (Value.none) (Value.none) (none) (Value.none) (Value.none) (0)
noncomputable def o44 (P : Params) : Obj := { cls := Value.type "code", data := Data.fields #[Value.str (Str.ofString "heappush") 291, Value.str (Str.ofString "heappush") 292, Value.str (Str.ofString "/claim/cut.py") 293, Value.int 6 0, Value.int 2 0, Value.int 0 0, Value.int 0 0, Value.int 3 0, Value.ref 39, Value.bool true, Value.int 276 0, Value.ref 40, Value.none, Value.ref 41, Value.ref 42, Value.ref 43, Value.int 296 0, Value.int 6 0, Value.str (Str.ofString "/claim/cut.py") 297] }
noncomputable def o45 (P : Params) : Obj := fnO (stA 3) (Str.ofString "heappush") (3) ([]) (Value.none) (Value.none) (Value.none) (Value.str (Str.ofString "cpy313.heapq") 289) (none) (Value.ref 44) (Value.none) (0)
noncomputable def o48 (P : Params) : Obj := { cls := Value.type "tuple", data := Data.seq #[Value.str (Str.ofString "heap") 302, Value.str (Str.ofString "lastelt") 303, Value.str (Str.ofString "returnitem") 304] }
noncomputable def o50 (P : Params) : Obj := unC <| fnO (stA 4) (Str.ofString "heappop") (0) ([]) (Value.none) (Value.none) (Value.none) (Value.none) (none) (Value.none) (Value.none) (0)
noncomputable def o51 (P : Params) : Obj := { cls := Value.type "code", data := Data.fields #[Value.str (Str.ofString "heappop") 299, Value.str (Str.ofString "heappop") 300, Value.str (Str.ofString "/claim/cut.py") 301, Value.int 9 0, Value.int 1 0, Value.int 0 0, Value.int 0 0, Value.int 3 0, Value.ref 46, Value.bool true, Value.int 276 0, Value.ref 47, Value.none, Value.ref 48, Value.ref 49, Value.ref 50, Value.int 305 0, Value.int 9 0, Value.str (Str.ofString "/claim/cut.py") 306] }
noncomputable def o52 (P : Params) : Obj := fnO (stA 4) (Str.ofString "heappop") (3) ([]) (Value.none) (Value.none) (Value.none) (Value.str (Str.ofString "cpy313.heapq") 289) (none) (Value.ref 51) (Value.none) (0)
noncomputable def o55 (P : Params) : Obj := { cls := Value.type "tuple", data := Data.seq #[Value.str (Str.ofString "heap") 311, Value.str (Str.ofString "startpos") 312, Value.str (Str.ofString "pos") 313, Value.str (Str.ofString "newitem") 314, Value.str (Str.ofString "parentpos") 315, Value.str (Str.ofString "parent") 316] }
noncomputable def o57 (P : Params) : Obj := unC <| fnO (stA 5) (Str.ofString "_siftdown") (0) ([]) (Value.none) (Value.none) (Value.none) (Value.none) (none) (Value.none) (Value.none) (0)
noncomputable def o58 (P : Params) : Obj := { cls := Value.type "code", data := Data.fields #[Value.str (Str.ofString "_siftdown") 308, Value.str (Str.ofString "_siftdown") 309, Value.str (Str.ofString "/claim/cut.py") 310, Value.int 17 0, Value.int 3 0, Value.int 0 0, Value.int 0 0, Value.int 3 0, Value.ref 53, Value.bool true, Value.int 276 0, Value.ref 54, Value.none, Value.ref 55, Value.ref 56, Value.ref 57, Value.int 317 0, Value.int 17 0, Value.str (Str.ofString "/claim/cut.py") 318] }
noncomputable def o59 (P : Params) : Obj := fnO (stA 5) (Str.ofString "_siftdown") (3) ([]) (Value.none) (Value.none) (Value.none) (Value.str (Str.ofString "cpy313.heapq") 289) (none) (Value.ref 58) (Value.none) (0)
noncomputable def o62 (P : Params) : Obj := { cls := Value.type "tuple", data := Data.seq #[Value.str (Str.ofString "heap") 323, Value.str (Str.ofString "pos") 324, Value.str (Str.ofString "endpos") 325, Value.str (Str.ofString "startpos") 326, Value.str (Str.ofString "newitem") 327, Value.str (Str.ofString "childpos") 328, Value.str (Str.ofString "rightpos") 329] }
noncomputable def o64 (P : Params) : Obj := unC <| fnO (stA 6) (Str.ofString "_siftup") (0) ([]) (Value.none) (Value.none) (Value.none) (Value.none) (none) (Value.none) (Value.none) (0)
noncomputable def o65 (P : Params) : Obj := { cls := Value.type "code", data := Data.fields #[Value.str (Str.ofString "_siftup") 320, Value.str (Str.ofString "_siftup") 321, Value.str (Str.ofString "/claim/cut.py") 322, Value.int 28 0, Value.int 2 0, Value.int 0 0, Value.int 0 0, Value.int 3 0, Value.ref 60, Value.bool true, Value.int 276 0, Value.ref 61, Value.none, Value.ref 62, Value.ref 63, Value.ref 64, Value.int 330 0, Value.int 28 0, Value.str (Str.ofString "/claim/cut.py") 331] }
noncomputable def o66 (P : Params) : Obj := fnO (stA 6) (Str.ofString "_siftup") (3) ([]) (Value.none) (Value.none) (Value.none) (Value.str (Str.ofString "cpy313.heapq") 289) (none) (Value.ref 65) (Value.none) (0)
noncomputable def o67 (P : Params) : Obj := { cls := Value.type "list", data := Data.seq #[Value.int 14 338, Value.int 12 339, Value.int 4 340, Value.int 1 341, Value.int 1 342, Value.int 21 343, Value.int 22 344, Value.int 48 345, Value.int 57 346, Value.int 22 347, Value.int 65 348, Value.int 70 349, Value.int 0 350, Value.int 13 351, Value.int 9 352, Value.int 21 353, Value.int 22 354, Value.int 48 355, Value.int 57 356, Value.int 22 357, Value.int 65 358, Value.int 70 359, Value.int 0 360, Value.int 1 361] }
noncomputable def o69 (P : Params) : Obj := { cls := Value.type "tuple", data := Data.seq #[Value.none] }
noncomputable def o70 (P : Params) : Obj := { cls := Value.type "tuple", data := Data.seq #[Value.int 14 0, Value.int 12 0, Value.int 4 0, Value.int 1 0, Value.int 1 0, Value.int 21 0, Value.int 22 0, Value.int 48 0, Value.int 57 0, Value.int 22 0, Value.int 65 0, Value.int 70 0, Value.int 0 0, Value.int 13 0, Value.int 9 0, Value.int 21 0, Value.int 22 0, Value.int 48 0, Value.int 57 0, Value.int 22 0, Value.int 65 0, Value.int 70 0, Value.int 0 0, Value.int 1 0] }
noncomputable def o71 (P : Params) : Obj := { cls := Value.type "re.Pattern", data := Data.fields #[Value.bytes #[91, 94, 48, 45, 57, 65, 45, 70, 93] 336, Value.int 0 363, Value.int 0 0, Value.none, Value.none, Value.ref 70, Value.int 1 0] }
noncomputable def o72 (P : Params) : Obj := { cls := Value.type "tuple", data := Data.seq #[Value.type "bytes", Value.type "bytearray"] }
noncomputable def o75 (P : Params) : Obj := { cls := Value.type "tuple", data := Data.seq #[Value.str (Str.ofString "s") 369] }
noncomputable def o77 (P : Params) : Obj := unC <| fnO (stA 10) (Str.ofString "_bytes_from_decode_data") (0) ([]) (Value.none) (Value.none) (Value.none) (Value.none) (none) (Value.none) (Value.none) (0)
noncomputable def o78 (P : Params) : Obj := { cls := Value.type "code", data := Data.fields #[Value.str (Str.ofString "_bytes_from_decode_data") 366, Value.str (Str.ofString "_bytes_from_decode_data") 367, Value.str (Str.ofString "/claim/cut.py") 368, Value.int 45 0, Value.int 1 0, Value.int 0 0, Value.int 0 0, Value.int 3 0, Value.ref 73, Value.bool true, Value.int 276 0, Value.ref 74, Value.none, Value.ref 75, Value.ref 76, Value.ref 77, Value.int 370 0, Value.int 45 0, Value.str (Str.ofString "/claim/cut.py") 371] }
noncomputable def o79 (P : Params) : Obj := fnO (stA 10) (Str.ofString "_bytes_from_decode_data") (3) ([]) (Value.none) (Value.none) (Value.none) (Value.str (Str.ofString "cpy313.base64") 333) (none) (Value.ref 78) (Value.none) (0)
noncomputable def o80 (P : Params) : Obj := { cls := Value.type "tuple", data := Data.seq #[Value.type "ValueError"] }
noncomputable def o81 (P : Params) : Obj := { cls := Value.type "builtin_function_or_method", data := Data.fields #[Value.builtin "type.__prepare__", Value.type "type"] }
noncomputable def o82 (P : Params) : Obj := { cls := Value.type "dict", data := Data.dict #[{ hash := PyData.keyHash P (Str.ofString "__module__"), key := Value.str (Str.ofString "__module__") 382, val := Value.str (Str.ofString "binascii") 373 }, { hash := PyData.keyHash P (Str.ofString "__qualname__"), key := Value.str (Str.ofString "__qualname__") 384, val := Value.str (Str.ofString "Error") 383 }, { hash := PyData.keyHash P (Str.ofString "__firstlineno__"), key := Value.str (Str.ofString "__firstlineno__") 386, val := Value.int 58 385 }, { hash := PyData.keyHash P (Str.ofString "__static_attributes__"), key := Value.str (Str.ofString "__static_attributes__") 387, val := Value.ref 87 }] 4 }
noncomputable def o85 (P : Params) : Obj := { cls := Value.type "code", data := Data.fields #[Value.str (Str.ofString "Error") 377, Value.str (Str.ofString "Error") 378, Value.str (Str.ofString "/claim/cut.py") 379, Value.int 58 0, Value.int 0 0, Value.int 0 0, Value.int 0 0, Value.int 0 0, Value.ref 83, Value.bool false, Value.int 276 0, Value.ref 84, Value.none, Value.none, Value.none, Value.none, Value.int 380 0, Value.int 58 0, Value.str (Str.ofString "/claim/cut.py") 381] }
noncomputable def o86 (P : Params) : Obj := { cls := Value.type "frame", slots := #[some (Value.ref 85), some (Value.ref 3), some (Value.ref 82), none, some (Value.str (Str.ofString "binascii") 373), none, some (Value.ref 0)] }
noncomputable def o88 (P : Params) : Obj := { cls := Value.type "dict", data := Data.dict #[{ hash := PyData.keyHash P (Str.ofString "__module__"), key := Value.str (Str.ofString "__module__") 382, val := Value.str (Str.ofString "binascii") 373 }, { hash := PyData.keyHash P (Str.ofString "__firstlineno__"), key := Value.str (Str.ofString "__firstlineno__") 386, val := Value.int 58 385 }, { hash := PyData.keyHash P (Str.ofString "__static_attributes__"), key := Value.str (Str.ofString "__static_attributes__") 387, val := Value.ref 87 }, { hash := PyData.keyHash P (Str.ofString "__weakref__"), key := Value.str (Str.ofString "__weakref__") 389, val := Value.ref 90 }, { hash := PyData.keyHash P (Str.ofString "__doc__"), key := Value.str (Str.ofString "__doc__") 390, val := Value.none }] 3 }
noncomputable def o89 (P : Params) : Obj := { cls := Value.type "type", data := Data.cls { name := Str.ofString "Error", bases := [Value.type "ValueError"], mro := [Value.ref 89, Value.type "ValueError", Value.type "Exception", Value.type "BaseException", Value.type "object"], ns := 88, qualname := Str.ofString "Error" }, slots := #[some (Value.ref 80), none, some (Value.str (Str.ofString "Error") 375), some (Value.str (Str.ofString "Error") 383), some (Value.builtin "ValueError.__new__"), some (Value.bool true)] }
noncomputable def o90 (P : Params) : Obj := { cls := Value.type "getset_descriptor", data := Data.fields #[Value.str (Str.ofString "__weakref__") 388, Value.ref 89, Value.builtin "ExceptionGroup.__weakref__", Value.none] }
noncomputable def o91 (P : Params) : Obj := { cls := Value.type "super", data := Data.fields #[Value.ref 89, Value.ref 89, Value.ref 89] }
noncomputable def o92 (P : Params) : Obj := { cls := Value.type "builtin_function_or_method", data := Data.fields #[Value.builtin "object.__init_subclass__", Value.ref 89] }
noncomputable def o95 (P : Params) : Obj := { cls := Value.type "tuple", data := Data.seq #[Value.str (Str.ofString "data") 396, Value.str (Str.ofString "t") 397] }
noncomputable def o97 (P : Params) : Obj := unC <| fnO (stA 13) (Str.ofString "_ascii_buffer") (0) ([]) (Value.none) (Value.none) (Value.none) (Value.none) (none) (Value.none) (Value.none) (0)
noncomputable def o98 (P : Params) : Obj := { cls := Value.type "code", data := Data.fields #[Value.str (Str.ofString "_ascii_buffer") 393, Value.str (Str.ofString "_ascii_buffer") 394, Value.str (Str.ofString "/claim/cut.py") 395, Value.int 60 0, Value.int 1 0, Value.int 0 0, Value.int 0 0, Value.int 3 0, Value.ref 93, Value.bool true, Value.int 276 0, Value.ref 94, Value.none, Value.ref 95, Value.ref 96, Value.ref 97, Value.int 398 0, Value.int 60 0, Value.str (Str.ofString "/claim/cut.py") 399] }
noncomputable def o99 (P : Params) : Obj := fnO (stA 13) (Str.ofString "_ascii_buffer") (3) ([]) (Value.none) (Value.none) (Value.none) (Value.str (Str.ofString "binascii") 373) (none) (Value.ref 98) (Value.none) (0)
noncomputable def o3v2 (P : Params) : Obj := { cls := Value.type "dict", data := Data.dict #[{ hash := PyData.keyHash P (Str.ofString "__name__"), key := Value.str (Str.ofString "__name__") 165, val := Value.str (Str.ofString "cpy313.graphlib") 460 }, { hash := PyData.keyHash P (Str.ofString "__doc__"), key := Value.str (Str.ofString "__doc__") 166, val := Value.none }, { hash := PyData.keyHash P (Str.ofString "__package__"), key := Value.str (Str.ofString "__package__") 167, val := Value.none }, { hash := PyData.keyHash P (Str.ofString "__loader__"), key := Value.str (Str.ofString "__loader__") 168, val := Value.builtin "__main__.__loader__#opaque" }, { hash := PyData.keyHash P (Str.ofString "__spec__"), key := Value.str (Str.ofString "__spec__") 169, val := Value.none }, { hash := PyData.keyHash P (Str.ofString "__annotations__"), key := Value.str (Str.ofString "__annotations__") 170, val := Value.ref 6 }, { hash := PyData.keyHash P (Str.ofString "__builtins__"), key := Value.str (Str.ofString "__builtins__") 171, val := Value.ref 4 }, { hash := PyData.keyHash P (Str.ofString "__file__"), key := Value.str (Str.ofString "__file__") 173, val := Value.str (Str.ofString "/claim/cut.py") 172 }, { hash := PyData.keyHash P (Str.ofString "__cached__"), key := Value.str (Str.ofString "__cached__") 174, val := Value.none }, { hash := PyData.keyHash P (Str.ofString "_sre"), key := Value.str (Str.ofString "_sre") 275, val := Value.ref 12 }, { hash := PyData.keyHash P (Str.ofString "_wall"), key := Value.str (Str.ofString "_wall") 288, val := Value.ref 38 }, { hash := PyData.keyHash P (Str.ofString "heappush"), key := Value.str (Str.ofString "heappush") 298, val := Value.ref 45 }, { hash := PyData.keyHash P (Str.ofString "heappop"), key := Value.str (Str.ofString "heappop") 307, val := Value.ref 52 }, { hash := PyData.keyHash P (Str.ofString "_siftdown"), key := Value.str (Str.ofString "_siftdown") 319, val := Value.ref 59 }, { hash := PyData.keyHash P (Str.ofString "_siftup"), key := Value.str (Str.ofString "_siftup") 332, val := Value.ref 66 }, { hash := PyData.keyHash P (Str.ofString "_twin_re_1"), key := Value.str (Str.ofString "_twin_re_1") 364, val := Value.ref 71 }, { hash := PyData.keyHash P (Str.ofString "bytes_types"), key := Value.str (Str.ofString "bytes_types") 365, val := Value.ref 72 }, { hash := PyData.keyHash P (Str.ofString "_bytes_from_decode_data"), key := Value.str (Str.ofString "_bytes_from_decode_data") 372, val := Value.ref 79 }, { hash := PyData.keyHash P (Str.ofString "Error"), key := Value.str (Str.ofString "Error") 392, val := Value.ref 89 }, { hash := PyData.keyHash P (Str.ofString "_ascii_buffer"), key := Value.str (Str.ofString "_ascii_buffer") 400, val := Value.ref 99 }, { hash := PyData.keyHash P (Str.ofString "_buffer"), key := Value.str (Str.ofString "_buffer") 408, val := Value.ref 106 }, { hash := PyData.keyHash P (Str.ofString "_NO_SEP"), key := Value.str (Str.ofString "_NO_SEP") 409, val := Value.ref 107 }, { hash := PyData.keyHash P (Str.ofString "b2a_hex"), key := Value.str (Str.ofString "b2a_hex") 420, val := Value.ref 115 }, { hash := PyData.keyHash P (Str.ofString "hexlify"), key := Value.str (Str.ofString "hexlify") 421, val := Value.ref 115 }, { hash := PyData.keyHash P (Str.ofString "_hex_value"), key := Value.str (Str.ofString "_hex_value") 428, val := Value.ref 122 }, { hash := PyData.keyHash P (Str.ofString "a2b_hex"), key := Value.str (Str.ofString "a2b_hex") 441, val := Value.ref 129 }, { hash := PyData.keyHash P (Str.ofString "unhexlify"), key := Value.str (Str.ofString "unhexlify") 442, val := Value.ref 129 }, { hash := PyData.keyHash P (Str.ofString "b16encode"), key := Value.str (Str.ofString "b16encode") 451, val := Value.ref 136 }, { hash := PyData.keyHash P (Str.ofString "b16decode"), key := Value.str (Str.ofString "b16decode") 459, val := Value.ref 144 }, { hash := PyData.keyHash P (Str.ofString "_NODE_OUT"), key := Value.str (Str.ofString "_NODE_OUT") 464, val := Value.int (-1) 463 }, { hash := PyData.keyHash P (Str.ofString "_NODE_DONE"), key := Value.str (Str.ofString "_NODE_DONE") 467, val := Value.int (-2) 466 }] 31 }
noncomputable def o29v1 (P : Params) : Obj := { cls := Value.none, data := Data.fields #[Value.int 2 0, Value.int 0 0, Value.ref 37, Value.int 6 0, Value.int 0 0, Value.ref 44, Value.int 9 0, Value.int 0 0, Value.ref 51, Value.int 17 0, Value.int 0 0, Value.ref 58, Value.int 28 0, Value.int 0 0, Value.ref 65, Value.int 45 0, Value.int 0 0, Value.ref 78, Value.int 58 0, Value.int 0 0, Value.ref 85, Value.int 60 0, Value.int 0 0, Value.ref 98, Value.int 71 0, Value.int 0 0, Value.ref 105, Value.int 79 0, Value.int 0 0, Value.ref 114, Value.int 96 0, Value.int 0 0, Value.ref 121, Value.int 104 0, Value.int 0 0, Value.ref 128, Value.int 121 0, Value.int 0 0, Value.ref 135, Value.int 123 0, Value.int 0 0, Value.ref 143] }
noncomputable def o102 (P : Params) : Obj := { cls := Value.type "tuple", data := Data.seq #[Value.str (Str.ofString "data") 404, Value.str (Str.ofString "t") 405] }
noncomputable def o104 (P : Params) : Obj := unC <| fnO (stA 14) (Str.ofString "_buffer") (0) ([]) (Value.none) (Value.none) (Value.none) (Value.none) (none) (Value.none) (Value.none) (0)
noncomputable def o105 (P : Params) : Obj := { cls := Value.type "code", data := Data.fields #[Value.str (Str.ofString "_buffer") 401, Value.str (Str.ofString "_buffer") 402, Value.str (Str.ofString "/claim/cut.py") 403, Value.int 71 0, Value.int 1 0, Value.int 0 0, Value.int 0 0, Value.int 3 0, Value.ref 100, Value.bool true, Value.int 276 0, Value.ref 101, Value.none, Value.ref 102, Value.ref 103, Value.ref 104, Value.int 406 0, Value.int 71 0, Value.str (Str.ofString "/claim/cut.py") 407] }
noncomputable def o106 (P : Params) : Obj := fnO (stA 14) (Str.ofString "_buffer") (3) ([]) (Value.none) (Value.none) (Value.none) (Value.str (Str.ofString "binascii") 373) (none) (Value.ref 105) (Value.none) (0)
noncomputable def o107 (P : Params) : Obj := { cls := Value.type "object" }
noncomputable def o108 (P : Params) : Obj := { cls := Value.type "tuple", data := Data.seq #[Value.ref 107, Value.int 1 410] }
noncomputable def o111 (P : Params) : Obj := { cls := Value.type "tuple", data := Data.seq #[Value.str (Str.ofString "data") 414, Value.str (Str.ofString "sep") 415, Value.str (Str.ofString "bytes_per_sep") 416, Value.str (Str.ofString "t") 417] }
noncomputable def o113 (P : Params) : Obj := unC <| fnO (stA 16) (Str.ofString "b2a_hex") (0) ([]) (Value.none) (Value.none) (Value.none) (Value.none) (none) (Value.none) (Value.none) (0)
noncomputable def o114 (P : Params) : Obj := { cls := Value.type "code", data := Data.fields #[Value.str (Str.ofString "b2a_hex") 411, Value.str (Str.ofString "b2a_hex") 412, Value.str (Str.ofString "/claim/cut.py") 413, Value.int 79 0, Value.int 3 0, Value.int 0 0, Value.int 0 0, Value.int 3 0, Value.ref 109, Value.bool true, Value.int 276 0, Value.ref 110, Value.none, Value.ref 111, Value.ref 112, Value.ref 113, Value.int 418 0, Value.int 79 0, Value.str (Str.ofString "/claim/cut.py") 419] }
noncomputable def o115 (P : Params) : Obj := fnO (stA 16) (Str.ofString "b2a_hex") (3) ([]) (Value.ref 108) (Value.none) (Value.none) (Value.str (Str.ofString "binascii") 373) (none) (Value.ref 114) (Value.none) (0)
noncomputable def o118 (P : Params) : Obj := { cls := Value.type "tuple", data := Data.seq #[Value.str (Str.ofString "c") 425] }
noncomputable def o120 (P : Params) : Obj := unC <| fnO (stA 18) (Str.ofString "_hex_value") (0) ([]) (Value.none) (Value.none) (Value.none) (Value.none) (none) (Value.none) (Value.none) (0)
noncomputable def o121 (P : Params) : Obj := { cls := Value.type "code", data := Data.fields #[Value.str (Str.ofString "_hex_value") 422, Value.str (Str.ofString "_hex_value") 423, Value.str (Str.ofString "/claim/cut.py") 424, Value.int 96 0, Value.int 1 0, Value.int 0 0, Value.int 0 0, Value.int 3 0, Value.ref 116, Value.bool true, Value.int 276 0, Value.ref 117, Value.none, Value.ref 118, Value.ref 119, Value.ref 120, Value.int 426 0, Value.int 96 0, Value.str (Str.ofString "/claim/cut.py") 427] }
noncomputable def o122 (P : Params) : Obj := fnO (stA 18) (Str.ofString "_hex_value") (3) ([]) (Value.none) (Value.none) (Value.none) (Value.str (Str.ofString "binascii") 373) (none) (Value.ref 121) (Value.none) (0)
noncomputable def o125 (P : Params) : Obj := { cls := Value.type "tuple", data := Data.seq #[Value.str (Str.ofString "hexstr") 432, Value.str (Str.ofString "argbuf") 433, Value.str (Str.ofString "arglen") 434, Value.str (Str.ofString "out") 435, Value.str (Str.ofString "i") 436, Value.str (Str.ofString "top") 437, Value.str (Str.ofString "bot") 438] }
noncomputable def o127 (P : Params) : Obj := unC <| fnO (stA 19) (Str.ofString "a2b_hex") (0) ([]) (Value.none) (Value.none) (Value.none) (Value.none) (none) (Value.none) (Value.none) (0)
noncomputable def o128 (P : Params) : Obj := { cls := Value.type "code", data := Data.fields #[Value.str (Str.ofString "a2b_hex") 429, Value.str (Str.ofString "a2b_hex") 430, Value.str (Str.ofString "/claim/cut.py") 431, Value.int 104 0, Value.int 1 0, Value.int 1 0, Value.int 0 0, Value.int 3 0, Value.ref 123, Value.bool true, Value.int 276 0, Value.ref 124, Value.none, Value.ref 125, Value.ref 126, Value.ref 127, Value.int 439 0, Value.int 104 0, Value.str (Str.ofString "/claim/cut.py") 440] }
noncomputable def o129 (P : Params) : Obj := fnO (stA 19) (Str.ofString "a2b_hex") (3) ([]) (Value.none) (Value.none) (Value.none) (Value.str (Str.ofString "binascii") 373) (none) (Value.ref 128) (Value.none) (0)
noncomputable def o132 (P : Params) : Obj := { cls := Value.type "tuple", data := Data.seq #[Value.str (Str.ofString "s") 448] }
noncomputable def o134 (P : Params) : Obj := unC <| fnO (stA 22) (Str.ofString "b16encode") (0) ([]) (Value.none) (Value.none) (Value.none) (Value.none) (none) (Value.none) (Value.none) (0)
noncomputable def o135 (P : Params) : Obj := { cls := Value.type "code", data := Data.fields #[Value.str (Str.ofString "b16encode") 445, Value.str (Str.ofString "b16encode") 446, Value.str (Str.ofString "/claim/cut.py") 447, Value.int 121 0, Value.int 1 0, Value.int 0 0, Value.int 0 0, Value.int 3 0, Value.ref 130, Value.bool true, Value.int 276 0, Value.ref 131, Value.none, Value.ref 132, Value.ref 133, Value.ref 134, Value.int 449 0, Value.int 121 0, Value.str (Str.ofString "/claim/cut.py") 450] }
noncomputable def o136 (P : Params) : Obj := fnO (stA 22) (Str.ofString "b16encode") (3) ([]) (Value.none) (Value.none) (Value.none) (Value.str (Str.ofString "cpy313.base64") 443) (none) (Value.ref 135) (Value.none) (0)
noncomputable def o137 (P : Params) : Obj := { cls := Value.type "tuple", data := Data.seq #[Value.bool false] }
noncomputable def o140 (P : Params) : Obj := { cls := Value.type "tuple", data := Data.seq #[Value.str (Str.ofString "s") 455, Value.str (Str.ofString "casefold") 456] }
noncomputable def o142 (P : Params) : Obj := unC <| fnO (stA 23) (Str.ofString "b16decode") (0) ([]) (Value.none) (Value.none) (Value.none) (Value.none) (none) (Value.none) (Value.none) (0)
noncomputable def o143 (P : Params) : Obj := { cls := Value.type "code", data := Data.fields #[Value.str (Str.ofString "b16decode") 452, Value.str (Str.ofString "b16decode") 453, Value.str (Str.ofString "/claim/cut.py") 454, Value.int 123 0, Value.int 2 0, Value.int 0 0, Value.int 0 0, Value.int 3 0, Value.ref 138, Value.bool true, Value.int 276 0, Value.ref 139, Value.none, Value.ref 140, Value.ref 141, Value.ref 142, Value.int 457 0, Value.int 123 0, Value.str (Str.ofString "/claim/cut.py") 458] }
noncomputable def o144 (P : Params) : Obj := fnO (stA 23) (Str.ofString "b16decode") (3) ([]) (Value.ref 137) (Value.none) (Value.none) (Value.str (Str.ofString "cpy313.base64") 443) (none) (Value.ref 143) (Value.none) (0)
noncomputable def o3v3 (P : Params) : Obj := { cls := Value.type "dict", data := Data.dict #[{ hash := PyData.keyHash P (Str.ofString "__name__"), key := Value.str (Str.ofString "__name__") 165, val := Value.str (Str.ofString "cpy313.graphlib") 460 }, { hash := PyData.keyHash P (Str.ofString "__doc__"), key := Value.str (Str.ofString "__doc__") 166, val := Value.none }, { hash := PyData.keyHash P (Str.ofString "__package__"), key := Value.str (Str.ofString "__package__") 167, val := Value.none }, { hash := PyData.keyHash P (Str.ofString "__loader__"), key := Value.str (Str.ofString "__loader__") 168, val := Value.builtin "__main__.__loader__#opaque" }, { hash := PyData.keyHash P (Str.ofString "__spec__"), key := Value.str (Str.ofString "__spec__") 169, val := Value.none }, { hash := PyData.keyHash P (Str.ofString "__annotations__"), key := Value.str (Str.ofString "__annotations__") 170, val := Value.ref 6 }, { hash := PyData.keyHash P (Str.ofString "__builtins__"), key := Value.str (Str.ofString "__builtins__") 171, val := Value.ref 4 }, { hash := PyData.keyHash P (Str.ofString "__file__"), key := Value.str (Str.ofString "__file__") 173, val := Value.str (Str.ofString "/claim/cut.py") 172 }, { hash := PyData.keyHash P (Str.ofString "__cached__"), key := Value.str (Str.ofString "__cached__") 174, val := Value.none }, { hash := PyData.keyHash P (Str.ofString "_sre"), key := Value.str (Str.ofString "_sre") 275, val := Value.ref 12 }, { hash := PyData.keyHash P (Str.ofString "_wall"), key := Value.str (Str.ofString "_wall") 288, val := Value.ref 38 }, { hash := PyData.keyHash P (Str.ofString "heappush"), key := Value.str (Str.ofString "heappush") 298, val := Value.ref 45 }, { hash := PyData.keyHash P (Str.ofString "heappop"), key := Value.str (Str.ofString "heappop") 307, val := Value.ref 52 }, { hash := PyData.keyHash P (Str.ofString "_siftdown"), key := Value.str (Str.ofString "_siftdown") 319, val := Value.ref 59 }, { hash := PyData.keyHash P (Str.ofString "_siftup"), key := Value.str (Str.ofString "_siftup") 332, val := Value.ref 66 }, { hash := PyData.keyHash P (Str.ofString "_twin_re_1"), key := Value.str (Str.ofString "_twin_re_1") 364, val := Value.ref 71 }, { hash := PyData.keyHash P (Str.ofString "bytes_types"), key := Value.str (Str.ofString "bytes_types") 365, val := Value.ref 72 }, { hash := PyData.keyHash P (Str.ofString "_bytes_from_decode_data"), key := Value.str (Str.ofString "_bytes_from_decode_data") 372, val := Value.ref 79 }, { hash := PyData.keyHash P (Str.ofString "Error"), key := Value.str (Str.ofString "Error") 392, val := Value.ref 89 }, { hash := PyData.keyHash P (Str.ofString "_ascii_buffer"), key := Value.str (Str.ofString "_ascii_buffer") 400, val := Value.ref 99 }, { hash := PyData.keyHash P (Str.ofString "_buffer"), key := Value.str (Str.ofString "_buffer") 408, val := Value.ref 106 }, { hash := PyData.keyHash P (Str.ofString "_NO_SEP"), key := Value.str (Str.ofString "_NO_SEP") 409, val := Value.ref 107 }, { hash := PyData.keyHash P (Str.ofString "b2a_hex"), key := Value.str (Str.ofString "b2a_hex") 420, val := Value.ref 115 }, { hash := PyData.keyHash P (Str.ofString "hexlify"), key := Value.str (Str.ofString "hexlify") 421, val := Value.ref 115 }, { hash := PyData.keyHash P (Str.ofString "_hex_value"), key := Value.str (Str.ofString "_hex_value") 428, val := Value.ref 122 }, { hash := PyData.keyHash P (Str.ofString "a2b_hex"), key := Value.str (Str.ofString "a2b_hex") 441, val := Value.ref 129 }, { hash := PyData.keyHash P (Str.ofString "unhexlify"), key := Value.str (Str.ofString "unhexlify") 442, val := Value.ref 129 }, { hash := PyData.keyHash P (Str.ofString "b16encode"), key := Value.str (Str.ofString "b16encode") 451, val := Value.ref 136 }, { hash := PyData.keyHash P (Str.ofString "b16decode"), key := Value.str (Str.ofString "b16decode") 459, val := Value.ref 144 }, { hash := PyData.keyHash P (Str.ofString "_NODE_OUT"), key := Value.str (Str.ofString "_NODE_OUT") 464, val := Value.int (-1) 463 }, { hash := PyData.keyHash P (Str.ofString "_NODE_DONE"), key := Value.str (Str.ofString "_NODE_DONE") 467, val := Value.int (-2) 466 }, { hash := PyData.keyHash P (Str.ofString "_NodeInfo"), key := Value.str (Str.ofString "_NodeInfo") 504, val := Value.ref 163 }, { hash := PyData.keyHash P (Str.ofString "CycleError"), key := Value.str (Str.ofString "CycleError") 522, val := Value.ref 178 }] 33 }
noncomputable def o29v2 (P : Params) : Obj := { cls := Value.none, data := Data.fields #[Value.int 2 0, Value.int 0 0, Value.ref 37, Value.int 6 0, Value.int 0 0, Value.ref 44, Value.int 9 0, Value.int 0 0, Value.ref 51, Value.int 17 0, Value.int 0 0, Value.ref 58, Value.int 28 0, Value.int 0 0, Value.ref 65, Value.int 45 0, Value.int 0 0, Value.ref 78, Value.int 58 0, Value.int 0 0, Value.ref 85, Value.int 60 0, Value.int 0 0, Value.ref 98, Value.int 71 0, Value.int 0 0, Value.ref 105, Value.int 79 0, Value.int 0 0, Value.ref 114, Value.int 96 0, Value.int 0 0, Value.ref 121, Value.int 104 0, Value.int 0 0, Value.ref 128, Value.int 121 0, Value.int 0 0, Value.ref 135, Value.int 123 0, Value.int 0 0, Value.ref 143, Value.int 133 0, Value.int 0 0, Value.ref 150, Value.int 140 0, Value.int 0 0, Value.ref 174] }
noncomputable def o147 (P : Params) : Obj := { cls := Value.type "dict", data := Data.dict #[{ hash := PyData.keyHash P (Str.ofString "__module__"), key := Value.str (Str.ofString "__module__") 475, val := Value.str (Str.ofString "cpy313.graphlib") 460 }, { hash := PyData.keyHash P (Str.ofString "__qualname__"), key := Value.str (Str.ofString "__qualname__") 477, val := Value.str (Str.ofString "_NodeInfo") 476 }, { hash := PyData.keyHash P (Str.ofString "__firstlineno__"), key := Value.str (Str.ofString "__firstlineno__") 479, val := Value.int 133 478 }, { hash := PyData.keyHash P (Str.ofString "__slots__"), key := Value.str (Str.ofString "__slots__") 483, val := Value.ref 152 }, { hash := PyData.keyHash P (Str.ofString "__init__"), key := Value.str (Str.ofString "__init__") 491, val := Value.ref 159 }, { hash := PyData.keyHash P (Str.ofString "__static_attributes__"), key := Value.str (Str.ofString "__static_attributes__") 495, val := Value.ref 160 }] 6 }
noncomputable def o149 (P : Params) : Obj := { cls := Value.none, data := Data.fields #[Value.int 136 0, Value.int 4 0, Value.ref 158] }
noncomputable def o150 (P : Params) : Obj := { cls := Value.type "code", data := Data.fields #[Value.str (Str.ofString "_NodeInfo") 470, Value.str (Str.ofString "_NodeInfo") 471, Value.str (Str.ofString "/claim/cut.py") 472, Value.int 133 0, Value.int 0 0, Value.int 0 0, Value.int 0 0, Value.int 0 0, Value.ref 148, Value.bool false, Value.int 276 0, Value.ref 149, Value.none, Value.none, Value.none, Value.none, Value.int 473 0, Value.int 133 0, Value.str (Str.ofString "/claim/cut.py") 474] }
noncomputable def o151 (P : Params) : Obj := { cls := Value.type "frame", slots := #[some (Value.ref 150), some (Value.ref 3), some (Value.ref 147), none, some (Value.str (Str.ofString "cpy313.graphlib") 460), none, some (Value.ref 0)] }
noncomputable def o152 (P : Params) : Obj := { cls := Value.type "tuple", data := Data.seq #[Value.str (Str.ofString "node") 480, Value.str (Str.ofString "npredecessors") 481, Value.str (Str.ofString "successors") 482] }
noncomputable def o155 (P : Params) : Obj := { cls := Value.type "tuple", data := Data.seq #[Value.str (Str.ofString "self") 487, Value.str (Str.ofString "node") 488] }
noncomputable def o157 (P : Params) : Obj := unC <| fnO (stC 27 1) (Str.ofString "_NodeInfo.__init__") (0) ([]) (Value.none) (Value.none) (Value.none) (Value.none) (none) (Value.none) (Value.none) (0)
noncomputable def o158 (P : Params) : Obj := { cls := Value.type "code", data := Data.fields #[Value.str (Str.ofString "__init__") 484, Value.str (Str.ofString "_NodeInfo.__init__") 485, Value.str (Str.ofString "/claim/cut.py") 486, Value.int 136 0, Value.int 2 0, Value.int 0 0, Value.int 0 0, Value.int 3 0, Value.ref 153, Value.bool true, Value.int 276 0, Value.ref 154, Value.none, Value.ref 155, Value.ref 156, Value.ref 157, Value.int 489 0, Value.int 136 0, Value.str (Str.ofString "/claim/cut.py") 490] }
noncomputable def o159 (P : Params) : Obj := fnO (stC 27 1) (Str.ofString "_NodeInfo.__init__") (3) ([]) (Value.none) (Value.none) (Value.none) (Value.str (Str.ofString "cpy313.graphlib") 460) (none) (Value.ref 158) (Value.none) (0)
noncomputable def o160 (P : Params) : Obj := { cls := Value.type "tuple", data := Data.seq #[Value.str (Str.ofString "node") 492, Value.str (Str.ofString "npredecessors") 493, Value.str (Str.ofString "successors") 494] }
noncomputable def o161 (P : Params) : Obj := { cls := Value.type "list", data := Data.seq #[Value.str (Str.ofString "node") 480, Value.str (Str.ofString "npredecessors") 481, Value.str (Str.ofString "successors") 482] 1 }
noncomputable def o162 (P : Params) : Obj := { cls := Value.type "dict", data := Data.dict #[{ hash := PyData.keyHash P (Str.ofString "__module__"), key := Value.str (Str.ofString "__module__") 475, val := Value.str (Str.ofString "cpy313.graphlib") 460 }, { hash := PyData.keyHash P (Str.ofString "__firstlineno__"), key := Value.str (Str.ofString "__firstlineno__") 479, val := Value.int 133 478 }, { hash := PyData.keyHash P (Str.ofString "__slots__"), key := Value.str (Str.ofString "__slots__") 483, val := Value.ref 152 }, { hash := PyData.keyHash P (Str.ofString "__init__"), key := Value.str (Str.ofString "__init__") 491, val := Value.ref 159 }, { hash := PyData.keyHash P (Str.ofString "__static_attributes__"), key := Value.str (Str.ofString "__static_attributes__") 495, val := Value.ref 160 }, { hash := PyData.keyHash P (Str.ofString "node"), key := Value.str (Str.ofString "node") 497, val := Value.ref 164 }, { hash := PyData.keyHash P (Str.ofString "npredecessors"), key := Value.str (Str.ofString "npredecessors") 499, val := Value.ref 165 }, { hash := PyData.keyHash P (Str.ofString "successors"), key := Value.str (Str.ofString "successors") 501, val := Value.ref 166 }, { hash := PyData.keyHash P (Str.ofString "__doc__"), key := Value.str (Str.ofString "__doc__") 502, val := Value.none }] 5 }
noncomputable def o163 (P : Params) : Obj := { cls := Value.type "type", data := Data.cls { name := Str.ofString "_NodeInfo", bases := [Value.type "object"], mro := [Value.ref 163, Value.type "object"], ns := 162, qualname := Str.ofString "_NodeInfo", hasDict := false, slotNames := [Str.ofString "node", Str.ofString "npredecessors", Str.ofString "successors"] }, slots := #[none, none, some (Value.str (Str.ofString "_NodeInfo") 468), some (Value.str (Str.ofString "_NodeInfo") 476), some (Value.builtin "object.__new__"), some (Value.bool false)] }
noncomputable def o164 (P : Params) : Obj := { cls := Value.type "member_descriptor", data := Data.fields #[Value.str (Str.ofString "node") 496, Value.ref 163, Value.builtin "proto.slot", Value.builtin "proto.slot#set", Value.int 2 0] }
noncomputable def o165 (P : Params) : Obj := { cls := Value.type "member_descriptor", data := Data.fields #[Value.str (Str.ofString "npredecessors") 498, Value.ref 163, Value.builtin "proto.slot", Value.builtin "proto.slot#set", Value.int 1 0] }
noncomputable def o166 (P : Params) : Obj := { cls := Value.type "member_descriptor", data := Data.fields #[Value.str (Str.ofString "successors") 500, Value.ref 163, Value.builtin "proto.slot", Value.builtin "proto.slot#set", Value.int 0 0] }
noncomputable def o167 (P : Params) : Obj := { cls := Value.type "super", data := Data.fields #[Value.ref 163, Value.ref 163, Value.ref 163] }
noncomputable def o168 (P : Params) : Obj := { cls := Value.type "builtin_function_or_method", data := Data.fields #[Value.builtin "object.__init_subclass__", Value.ref 163] }
noncomputable def o171 (P : Params) : Obj := { cls := Value.type "dict", data := Data.dict #[{ hash := PyData.keyHash P (Str.ofString "__module__"), key := Value.str (Str.ofString "__module__") 512, val := Value.str (Str.ofString "cpy313.graphlib") 460 }, { hash := PyData.keyHash P (Str.ofString "__qualname__"), key := Value.str (Str.ofString "__qualname__") 514, val := Value.str (Str.ofString "CycleError") 513 }, { hash := PyData.keyHash P (Str.ofString "__firstlineno__"), key := Value.str (Str.ofString "__firstlineno__") 516, val := Value.int 140 515 }, { hash := PyData.keyHash P (Str.ofString "__static_attributes__"), key := Value.str (Str.ofString "__static_attributes__") 517, val := Value.ref 176 }] 4 }
noncomputable def o174 (P : Params) : Obj := { cls := Value.type "code", data := Data.fields #[Value.str (Str.ofString "CycleError") 507, Value.str (Str.ofString "CycleError") 508, Value.str (Str.ofString "/claim/cut.py") 509, Value.int 140 0, Value.int 0 0, Value.int 0 0, Value.int 0 0, Value.int 0 0, Value.ref 172, Value.bool false, Value.int 276 0, Value.ref 173, Value.none, Value.none, Value.none, Value.none, Value.int 510 0, Value.int 140 0, Value.str (Str.ofString "/claim/cut.py") 511] }
noncomputable def o175 (P : Params) : Obj := { cls := Value.type "frame", slots := #[some (Value.ref 174), some (Value.ref 3), some (Value.ref 171), none, some (Value.str (Str.ofString "cpy313.graphlib") 460), none, some (Value.ref 0)] }
noncomputable def o177 (P : Params) : Obj := { cls := Value.type "dict", data := Data.dict #[{ hash := PyData.keyHash P (Str.ofString "__module__"), key := Value.str (Str.ofString "__module__") 512, val := Value.str (Str.ofString "cpy313.graphlib") 460 }, { hash := PyData.keyHash P (Str.ofString "__firstlineno__"), key := Value.str (Str.ofString "__firstlineno__") 516, val := Value.int 140 515 }, { hash := PyData.keyHash P (Str.ofString "__static_attributes__"), key := Value.str (Str.ofString "__static_attributes__") 517, val := Value.ref 176 }, { hash := PyData.keyHash P (Str.ofString "__weakref__"), key := Value.str (Str.ofString "__weakref__") 519, val := Value.ref 179 }, { hash := PyData.keyHash P (Str.ofString "__doc__"), key := Value.str (Str.ofString "__doc__") 520, val := Value.none }] 3 }
noncomputable def o178 (P : Params) : Obj := { cls := Value.type "type", data := Data.cls { name := Str.ofString "CycleError", bases := [Value.type "ValueError"], mro := [Value.ref 178, Value.type "ValueError", Value.type "Exception", Value.type "BaseException", Value.type "object"], ns := 177, qualname := Str.ofString "CycleError" }, slots := #[some (Value.ref 169), none, some (Value.str (Str.ofString "CycleError") 505), some (Value.str (Str.ofString "CycleError") 513), some (Value.builtin "ValueError.__new__"), some (Value.bool true)] }
noncomputable def o179 (P : Params) : Obj := { cls := Value.type "getset_descriptor", data := Data.fields #[Value.str (Str.ofString "__weakref__") 518, Value.ref 178, Value.builtin "ExceptionGroup.__weakref__", Value.none] }
noncomputable def o180 (P : Params) : Obj := { cls := Value.type "super", data := Data.fields #[Value.ref 178, Value.ref 178, Value.ref 178] }
noncomputable def o181 (P : Params) : Obj := { cls := Value.type "builtin_function_or_method", data := Data.fields #[Value.builtin "object.__init_subclass__", Value.ref 178] }
noncomputable def o3v4 (P : Params) : Obj := { cls := Value.type "dict", data := Data.dict #[{ hash := PyData.keyHash P (Str.ofString "__name__"), key := Value.str (Str.ofString "__name__") 165, val := Value.str (Str.ofString "cpy313.graphlib") 460 }, { hash := PyData.keyHash P (Str.ofString "__doc__"), key := Value.str (Str.ofString "__doc__") 166, val := Value.none }, { hash := PyData.keyHash P (Str.ofString "__package__"), key := Value.str (Str.ofString "__package__") 167, val := Value.none }, { hash := PyData.keyHash P (Str.ofString "__loader__"), key := Value.str (Str.ofString "__loader__") 168, val := Value.builtin "__main__.__loader__#opaque" }, { hash := PyData.keyHash P (Str.ofString "__spec__"), key := Value.str (Str.ofString "__spec__") 169, val := Value.none }, { hash := PyData.keyHash P (Str.ofString "__annotations__"), key := Value.str (Str.ofString "__annotations__") 170, val := Value.ref 6 }, { hash := PyData.keyHash P (Str.ofString "__builtins__"), key := Value.str (Str.ofString "__builtins__") 171, val := Value.ref 4 }, { hash := PyData.keyHash P (Str.ofString "__file__"), key := Value.str (Str.ofString "__file__") 173, val := Value.str (Str.ofString "/claim/cut.py") 172 }, { hash := PyData.keyHash P (Str.ofString "__cached__"), key := Value.str (Str.ofString "__cached__") 174, val := Value.none }, { hash := PyData.keyHash P (Str.ofString "_sre"), key := Value.str (Str.ofString "_sre") 275, val := Value.ref 12 }, { hash := PyData.keyHash P (Str.ofString "_wall"), key := Value.str (Str.ofString "_wall") 288, val := Value.ref 38 }, { hash := PyData.keyHash P (Str.ofString "heappush"), key := Value.str (Str.ofString "heappush") 298, val := Value.ref 45 }, { hash := PyData.keyHash P (Str.ofString "heappop"), key := Value.str (Str.ofString "heappop") 307, val := Value.ref 52 }, { hash := PyData.keyHash P (Str.ofString "_siftdown"), key := Value.str (Str.ofString "_siftdown") 319, val := Value.ref 59 }, { hash := PyData.keyHash P (Str.ofString "_siftup"), key := Value.str (Str.ofString "_siftup") 332, val := Value.ref 66 }, { hash := PyData.keyHash P (Str.ofString "_twin_re_1"), key := Value.str (Str.ofString "_twin_re_1") 364, val := Value.ref 71 }, { hash := PyData.keyHash P (Str.ofString "bytes_types"), key := Value.str (Str.ofString "bytes_types") 365, val := Value.ref 72 }, { hash := PyData.keyHash P (Str.ofString "_bytes_from_decode_data"), key := Value.str (Str.ofString "_bytes_from_decode_data") 372, val := Value.ref 79 }, { hash := PyData.keyHash P (Str.ofString "Error"), key := Value.str (Str.ofString "Error") 392, val := Value.ref 89 }, { hash := PyData.keyHash P (Str.ofString "_ascii_buffer"), key := Value.str (Str.ofString "_ascii_buffer") 400, val := Value.ref 99 }, { hash := PyData.keyHash P (Str.ofString "_buffer"), key := Value.str (Str.ofString "_buffer") 408, val := Value.ref 106 }, { hash := PyData.keyHash P (Str.ofString "_NO_SEP"), key := Value.str (Str.ofString "_NO_SEP") 409, val := Value.ref 107 }, { hash := PyData.keyHash P (Str.ofString "b2a_hex"), key := Value.str (Str.ofString "b2a_hex") 420, val := Value.ref 115 }, { hash := PyData.keyHash P (Str.ofString "hexlify"), key := Value.str (Str.ofString "hexlify") 421, val := Value.ref 115 }, { hash := PyData.keyHash P (Str.ofString "_hex_value"), key := Value.str (Str.ofString "_hex_value") 428, val := Value.ref 122 }, { hash := PyData.keyHash P (Str.ofString "a2b_hex"), key := Value.str (Str.ofString "a2b_hex") 441, val := Value.ref 129 }, { hash := PyData.keyHash P (Str.ofString "unhexlify"), key := Value.str (Str.ofString "unhexlify") 442, val := Value.ref 129 }, { hash := PyData.keyHash P (Str.ofString "b16encode"), key := Value.str (Str.ofString "b16encode") 451, val := Value.ref 136 }, { hash := PyData.keyHash P (Str.ofString "b16decode"), key := Value.str (Str.ofString "b16decode") 459, val := Value.ref 144 }, { hash := PyData.keyHash P (Str.ofString "_NODE_OUT"), key := Value.str (Str.ofString "_NODE_OUT") 464, val := Value.int (-1) 463 }, { hash := PyData.keyHash P (Str.ofString "_NODE_DONE"), key := Value.str (Str.ofString "_NODE_DONE") 467, val := Value.int (-2) 466 }, { hash := PyData.keyHash P (Str.ofString "_NodeInfo"), key := Value.str (Str.ofString "_NodeInfo") 504, val := Value.ref 163 }, { hash := PyData.keyHash P (Str.ofString "CycleError"), key := Value.str (Str.ofString "CycleError") 522, val := Value.ref 178 }, { hash := PyData.keyHash P (Str.ofString "TopologicalSorter"), key := Value.str (Str.ofString "TopologicalSorter") 641, val := Value.ref 260 }] 34 }
noncomputable def o29v3 (P : Params) : Obj := { cls := Value.none, data := Data.fields #[Value.int 2 0, Value.int 0 0, Value.ref 37, Value.int 6 0, Value.int 0 0, Value.ref 44, Value.int 9 0, Value.int 0 0, Value.ref 51, Value.int 17 0, Value.int 0 0, Value.ref 58, Value.int 28 0, Value.int 0 0, Value.ref 65, Value.int 45 0, Value.int 0 0, Value.ref 78, Value.int 58 0, Value.int 0 0, Value.ref 85, Value.int 60 0, Value.int 0 0, Value.ref 98, Value.int 71 0, Value.int 0 0, Value.ref 105, Value.int 79 0, Value.int 0 0, Value.ref 114, Value.int 96 0, Value.int 0 0, Value.ref 121, Value.int 104 0, Value.int 0 0, Value.ref 128, Value.int 121 0, Value.int 0 0, Value.ref 135, Value.int 123 0, Value.int 0 0, Value.ref 143, Value.int 133 0, Value.int 0 0, Value.ref 150, Value.int 140 0, Value.int 0 0, Value.ref 174, Value.int 142 0, Value.int 0 0, Value.ref 187] }
noncomputable def o184 (P : Params) : Obj := { cls := Value.type "dict", data := Data.dict #[{ hash := PyData.keyHash P (Str.ofString "__module__"), key := Value.str (Str.ofString "__module__") 530, val := Value.str (Str.ofString "cpy313.graphlib") 460 }, { hash := PyData.keyHash P (Str.ofString "__qualname__"), key := Value.str (Str.ofString "__qualname__") 532, val := Value.str (Str.ofString "TopologicalSorter") 531 }, { hash := PyData.keyHash P (Str.ofString "__firstlineno__"), key := Value.str (Str.ofString "__firstlineno__") 534, val := Value.int 142 533 }, { hash := PyData.keyHash P (Str.ofString "__init__"), key := Value.str (Str.ofString "__init__") 544, val := Value.ref 196 }, { hash := PyData.keyHash P (Str.ofString "_get_nodeinfo"), key := Value.str (Str.ofString "_get_nodeinfo") 553, val := Value.ref 203 }, { hash := PyData.keyHash P (Str.ofString "add"), key := Value.str (Str.ofString "add") 565, val := Value.ref 210 }, { hash := PyData.keyHash P (Str.ofString "prepare"), key := Value.str (Str.ofString "prepare") 571, val := Value.ref 215 }, { hash := PyData.keyHash P (Str.ofString "get_ready"), key := Value.str (Str.ofString "get_ready") 581, val := Value.ref 222 }, { hash := PyData.keyHash P (Str.ofString "is_active"), key := Value.str (Str.ofString "is_active") 588, val := Value.ref 229 }, { hash := PyData.keyHash P (Str.ofString "__bool__"), key := Value.str (Str.ofString "__bool__") 595, val := Value.ref 236 }, { hash := PyData.keyHash P (Str.ofString "done"), key := Value.str (Str.ofString "done") 609, val := Value.ref 243 }, { hash := PyData.keyHash P (Str.ofString "_find_cycle"), key := Value.str (Str.ofString "_find_cycle") 622, val := Value.ref 250 }, { hash := PyData.keyHash P (Str.ofString "static_order"), key := Value.str (Str.ofString "static_order") 629, val := Value.ref 257 }, { hash := PyData.keyHash P (Str.ofString "__static_attributes__"), key := Value.str (Str.ofString "__static_attributes__") 634, val := Value.ref 258 }] 14 }
noncomputable def o186 (P : Params) : Obj := { cls := Value.none, data := Data.fields #[Value.int 144 0, Value.int 4 0, Value.ref 195, Value.int 153 0, Value.int 4 0, Value.ref 202, Value.int 158 0, Value.int 4 0, Value.ref 209, Value.int 167 0, Value.int 4 0, Value.ref 214, Value.int 175 0, Value.int 4 0, Value.ref 221, Value.int 186 0, Value.int 4 0, Value.ref 228, Value.int 191 0, Value.int 4 0, Value.ref 235, Value.int 194 0, Value.int 4 0, Value.ref 242, Value.int 217 0, Value.int 4 0, Value.ref 249, Value.int 246 0, Value.int 4 0, Value.ref 256] }
noncomputable def o187 (P : Params) : Obj := { cls := Value.type "code", data := Data.fields #[Value.str (Str.ofString "TopologicalSorter") 525, Value.str (Str.ofString "TopologicalSorter") 526, Value.str (Str.ofString "/claim/cut.py") 527, Value.int 142 0, Value.int 0 0, Value.int 0 0, Value.int 0 0, Value.int 0 0, Value.ref 185, Value.bool false, Value.int 276 0, Value.ref 186, Value.none, Value.none, Value.none, Value.none, Value.int 528 0, Value.int 142 0, Value.str (Str.ofString "/claim/cut.py") 529] }
noncomputable def o188 (P : Params) : Obj := { cls := Value.type "frame", slots := #[some (Value.ref 187), some (Value.ref 3), some (Value.ref 184), none, some (Value.str (Str.ofString "cpy313.graphlib") 460), none, some (Value.ref 0)] }
noncomputable def o192 (P : Params) : Obj := { cls := Value.type "tuple", data := Data.seq #[Value.str (Str.ofString "self") 538, Value.str (Str.ofString "graph") 539, Value.str (Str.ofString "node") 540, Value.str (Str.ofString "predecessors") 541] }
noncomputable def o194 (P : Params) : Obj := unC <| fnO (stC 29 0) (Str.ofString "TopologicalSorter.__init__") (0) ([]) (Value.none) (Value.none) (Value.none) (Value.none) (none) (Value.none) (Value.none) (0)
noncomputable def o195 (P : Params) : Obj := { cls := Value.type "code", data := Data.fields #[Value.str (Str.ofString "__init__") 535, Value.str (Str.ofString "TopologicalSorter.__init__") 536, Value.str (Str.ofString "/claim/cut.py") 537, Value.int 144 0, Value.int 2 0, Value.int 0 0, Value.int 0 0, Value.int 3 0, Value.ref 190, Value.bool true, Value.int 276 0, Value.ref 191, Value.none, Value.ref 192, Value.ref 193, Value.ref 194, Value.int 542 0, Value.int 144 0, Value.str (Str.ofString "/claim/cut.py") 543] }
noncomputable def o196 (P : Params) : Obj := fnO (stC 29 0) (Str.ofString "TopologicalSorter.__init__") (3) ([]) (Value.ref 189) (Value.none) (Value.none) (Value.str (Str.ofString "cpy313.graphlib") 460) (none) (Value.ref 195) (Value.none) (0)
noncomputable def o199 (P : Params) : Obj := { cls := Value.type "tuple", data := Data.seq #[Value.str (Str.ofString "self") 548, Value.str (Str.ofString "node") 549, Value.str (Str.ofString "result") 550] }
noncomputable def o201 (P : Params) : Obj := unC <| fnO (stC 29 1) (Str.ofString "TopologicalSorter._get_nodeinfo") (0) ([]) (Value.none) (Value.none) (Value.none) (Value.none) (none) (Value.none) (Value.none) (0)
noncomputable def o202 (P : Params) : Obj := { cls := Value.type "code", data := Data.fields #[Value.str (Str.ofString "_get_nodeinfo") 545, Value.str (Str.ofString "TopologicalSorter._get_nodeinfo") 546, Value.str (Str.ofString "/claim/cut.py") 547, Value.int 153 0, Value.int 2 0, Value.int 0 0, Value.int 0 0, Value.int 3 0, Value.ref 197, Value.bool true, Value.int 276 0, Value.ref 198, Value.none, Value.ref 199, Value.ref 200, Value.ref 201, Value.int 551 0, Value.int 153 0, Value.str (Str.ofString "/claim/cut.py") 552] }
noncomputable def o203 (P : Params) : Obj := fnO (stC 29 1) (Str.ofString "TopologicalSorter._get_nodeinfo") (3) ([]) (Value.none) (Value.none) (Value.none) (Value.str (Str.ofString "cpy313.graphlib") 460) (none) (Value.ref 202) (Value.none) (0)
noncomputable def o206 (P : Params) : Obj := { cls := Value.type "tuple", data := Data.seq #[Value.str (Str.ofString "self") 557, Value.str (Str.ofString "node") 558, Value.str (Str.ofString "predecessors") 559, Value.str (Str.ofString "nodeinfo") 560, Value.str (Str.ofString "pred") 561, Value.str (Str.ofString "pred_info") 562] }
noncomputable def o208 (P : Params) : Obj := unC <| fnO (stC 29 2) (Str.ofString "TopologicalSorter.add") (0) ([]) (Value.none) (Value.none) (Value.none) (Value.none) (none) (Value.none) (Value.none) (0)
noncomputable def o209 (P : Params) : Obj := { cls := Value.type "code", data := Data.fields #[Value.str (Str.ofString "add") 554, Value.str (Str.ofString "TopologicalSorter.add") 555, Value.str (Str.ofString "/claim/cut.py") 556, Value.int 158 0, Value.int 2 0, Value.int 0 0, Value.int 0 0, Value.int 7 0, Value.ref 204, Value.bool true, Value.int 276 0, Value.ref 205, Value.none, Value.ref 206, Value.ref 207, Value.ref 208, Value.int 563 0, Value.int 158 0, Value.str (Str.ofString "/claim/cut.py") 564] }
noncomputable def o210 (P : Params) : Obj := fnO (stC 29 2) (Str.ofString "TopologicalSorter.add") (3) ([]) (Value.none) (Value.none) (Value.none) (Value.str (Str.ofString "cpy313.graphlib") 460) (none) (Value.ref 209) (Value.none) (0)
noncomputable def o213 (P : Params) : Obj := unC <| fnO (stC 29 3) (Str.ofString "TopologicalSorter.prepare") (0) ([]) (Value.none) (Value.none) (Value.none) (Value.none) (none) (Value.none) (Value.none) (0)
noncomputable def o214 (P : Params) : Obj := { cls := Value.type "code", data := Data.fields #[Value.str (Str.ofString "prepare") 566, Value.str (Str.ofString "TopologicalSorter.prepare") 567, Value.str (Str.ofString "/claim/cut.py") 568, Value.int 167 0, Value.int 1 0, Value.int 0 0, Value.int 0 0, Value.int 3 0, Value.ref 211, Value.bool true, Value.int 276 0, Value.ref 212, Value.none, Value.none, Value.none, Value.ref 213, Value.int 569 0, Value.int 167 0, Value.str (Str.ofString "/claim/cut.py") 570] }
noncomputable def o215 (P : Params) : Obj := fnO (stC 29 3) (Str.ofString "TopologicalSorter.prepare") (3) ([]) (Value.none) (Value.none) (Value.none) (Value.str (Str.ofString "cpy313.graphlib") 460) (none) (Value.ref 214) (Value.none) (0)
noncomputable def o218 (P : Params) : Obj := { cls := Value.type "tuple", data := Data.seq #[Value.str (Str.ofString "self") 575, Value.str (Str.ofString "result") 576, Value.str (Str.ofString "n2i") 577, Value.str (Str.ofString "node") 578] }
noncomputable def o220 (P : Params) : Obj := unC <| fnO (stC 29 4) (Str.ofString "TopologicalSorter.get_ready") (0) ([]) (Value.none) (Value.none) (Value.none) (Value.none) (none) (Value.none) (Value.none) (0)
noncomputable def o221 (P : Params) : Obj := { cls := Value.type "code", data := Data.fields #[Value.str (Str.ofString "get_ready") 572, Value.str (Str.ofString "TopologicalSorter.get_ready") 573, Value.str (Str.ofString "/claim/cut.py") 574, Value.int 175 0, Value.int 1 0, Value.int 0 0, Value.int 0 0, Value.int 3 0, Value.ref 216, Value.bool true, Value.int 276 0, Value.ref 217, Value.none, Value.ref 218, Value.ref 219, Value.ref 220, Value.int 579 0, Value.int 175 0, Value.str (Str.ofString "/claim/cut.py") 580] }
noncomputable def o222 (P : Params) : Obj := fnO (stC 29 4) (Str.ofString "TopologicalSorter.get_ready") (3) ([]) (Value.none) (Value.none) (Value.none) (Value.str (Str.ofString "cpy313.graphlib") 460) (none) (Value.ref 221) (Value.none) (0)
noncomputable def o225 (P : Params) : Obj := { cls := Value.type "tuple", data := Data.seq #[Value.str (Str.ofString "self") 585] }
noncomputable def o227 (P : Params) : Obj := unC <| fnO (stC 29 5) (Str.ofString "TopologicalSorter.is_active") (0) ([]) (Value.none) (Value.none) (Value.none) (Value.none) (none) (Value.none) (Value.none) (0)
noncomputable def o228 (P : Params) : Obj := { cls := Value.type "code", data := Data.fields #[Value.str (Str.ofString "is_active") 582, Value.str (Str.ofString "TopologicalSorter.is_active") 583, Value.str (Str.ofString "/claim/cut.py") 584, Value.int 186 0, Value.int 1 0, Value.int 0 0, Value.int 0 0, Value.int 3 0, Value.ref 223, Value.bool true, Value.int 276 0, Value.ref 224, Value.none, Value.ref 225, Value.ref 226, Value.ref 227, Value.int 586 0, Value.int 186 0, Value.str (Str.ofString "/claim/cut.py") 587] }
noncomputable def o229 (P : Params) : Obj := fnO (stC 29 5) (Str.ofString "TopologicalSorter.is_active") (3) ([]) (Value.none) (Value.none) (Value.none) (Value.str (Str.ofString "cpy313.graphlib") 460) (none) (Value.ref 228) (Value.none) (0)
noncomputable def o232 (P : Params) : Obj := { cls := Value.type "tuple", data := Data.seq #[Value.str (Str.ofString "self") 592] }
noncomputable def o234 (P : Params) : Obj := unC <| fnO (stC 29 6) (Str.ofString "TopologicalSorter.__bool__") (0) ([]) (Value.none) (Value.none) (Value.none) (Value.none) (none) (Value.none) (Value.none) (0)
noncomputable def o235 (P : Params) : Obj := { cls := Value.type "code", data := Data.fields #[Value.str (Str.ofString "__bool__") 589, Value.str (Str.ofString "TopologicalSorter.__bool__") 590, Value.str (Str.ofString "/claim/cut.py") 591, Value.int 191 0, Value.int 1 0, Value.int 0 0, Value.int 0 0, Value.int 3 0, Value.ref 230, Value.bool true, Value.int 276 0, Value.ref 231, Value.none, Value.ref 232, Value.ref 233, Value.ref 234, Value.int 593 0, Value.int 191 0, Value.str (Str.ofString "/claim/cut.py") 594] }
noncomputable def o236 (P : Params) : Obj := fnO (stC 29 6) (Str.ofString "TopologicalSorter.__bool__") (3) ([]) (Value.none) (Value.none) (Value.none) (Value.str (Str.ofString "cpy313.graphlib") 460) (none) (Value.ref 235) (Value.none) (0)
noncomputable def o239 (P : Params) : Obj := { cls := Value.type "tuple", data := Data.seq #[Value.str (Str.ofString "self") 599, Value.str (Str.ofString "nodes") 600, Value.str (Str.ofString "n2i") 601, Value.str (Str.ofString "node") 602, Value.str (Str.ofString "nodeinfo") 603, Value.str (Str.ofString "stat") 604, Value.str (Str.ofString "successor") 605, Value.str (Str.ofString "successor_info") 606] }
noncomputable def o241 (P : Params) : Obj := unC <| fnO (stC 29 7) (Str.ofString "TopologicalSorter.done") (0) ([]) (Value.none) (Value.none) (Value.none) (Value.none) (none) (Value.none) (Value.none) (0)
noncomputable def o242 (P : Params) : Obj := { cls := Value.type "code", data := Data.fields #[Value.str (Str.ofString "done") 596, Value.str (Str.ofString "TopologicalSorter.done") 597, Value.str (Str.ofString "/claim/cut.py") 598, Value.int 194 0, Value.int 1 0, Value.int 0 0, Value.int 0 0, Value.int 7 0, Value.ref 237, Value.bool true, Value.int 276 0, Value.ref 238, Value.none, Value.ref 239, Value.ref 240, Value.ref 241, Value.int 607 0, Value.int 194 0, Value.str (Str.ofString "/claim/cut.py") 608] }
noncomputable def o243 (P : Params) : Obj := fnO (stC 29 7) (Str.ofString "TopologicalSorter.done") (3) ([]) (Value.none) (Value.none) (Value.none) (Value.str (Str.ofString "cpy313.graphlib") 460) (none) (Value.ref 242) (Value.none) (0)
noncomputable def o246 (P : Params) : Obj := { cls := Value.type "tuple", data := Data.seq #[Value.str (Str.ofString "self") 613, Value.str (Str.ofString "n2i") 614, Value.str (Str.ofString "stack") 615, Value.str (Str.ofString "itstack") 616, Value.str (Str.ofString "seen") 617, Value.str (Str.ofString "node2stacki") 618, Value.str (Str.ofString "node") 619] }
noncomputable def o248 (P : Params) : Obj := unC <| fnO (stC 29 8) (Str.ofString "TopologicalSorter._find_cycle") (0) ([]) (Value.none) (Value.none) (Value.none) (Value.none) (none) (Value.none) (Value.none) (0)
noncomputable def o249 (P : Params) : Obj := { cls := Value.type "code", data := Data.fields #[Value.str (Str.ofString "_find_cycle") 610, Value.str (Str.ofString "TopologicalSorter._find_cycle") 611, Value.str (Str.ofString "/claim/cut.py") 612, Value.int 217 0, Value.int 1 0, Value.int 0 0, Value.int 0 0, Value.int 3 0, Value.ref 244, Value.bool true, Value.int 276 0, Value.ref 245, Value.none, Value.ref 246, Value.ref 247, Value.ref 248, Value.int 620 0, Value.int 217 0, Value.str (Str.ofString "/claim/cut.py") 621] }
noncomputable def o250 (P : Params) : Obj := fnO (stC 29 8) (Str.ofString "TopologicalSorter._find_cycle") (3) ([]) (Value.none) (Value.none) (Value.none) (Value.str (Str.ofString "cpy313.graphlib") 460) (none) (Value.ref 249) (Value.none) (0)
noncomputable def o253 (P : Params) : Obj := { cls := Value.type "tuple", data := Data.seq #[Value.str (Str.ofString "self") 626] }
noncomputable def o255 (P : Params) : Obj := unC <| fnO (stC 29 9) (Str.ofString "TopologicalSorter.static_order") (0) ([]) (Value.none) (Value.none) (Value.none) (Value.none) (none) (Value.none) (Value.none) (0)
noncomputable def o256 (P : Params) : Obj := { cls := Value.type "code", data := Data.fields #[Value.str (Str.ofString "static_order") 623, Value.str (Str.ofString "TopologicalSorter.static_order") 624, Value.str (Str.ofString "/claim/cut.py") 625, Value.int 246 0, Value.int 1 0, Value.int 0 0, Value.int 0 0, Value.int 3 0, Value.ref 251, Value.bool true, Value.int 276 0, Value.ref 252, Value.none, Value.ref 253, Value.ref 254, Value.ref 255, Value.int 627 0, Value.int 246 0, Value.str (Str.ofString "/claim/cut.py") 628] }
noncomputable def o257 (P : Params) : Obj := fnO (stC 29 9) (Str.ofString "TopologicalSorter.static_order") (3) ([]) (Value.none) (Value.none) (Value.none) (Value.str (Str.ofString "cpy313.graphlib") 460) (none) (Value.ref 256) (Value.none) (0)
noncomputable def o258 (P : Params) : Obj := { cls := Value.type "tuple", data := Data.seq #[Value.str (Str.ofString "_nfinished") 630, Value.str (Str.ofString "_node2info") 631, Value.str (Str.ofString "_npassedout") 632, Value.str (Str.ofString "_ready_nodes") 633] }
noncomputable def o259 (P : Params) : Obj := { cls := Value.type "dict", data := Data.dict #[{ hash := PyData.keyHash P (Str.ofString "__module__"), key := Value.str (Str.ofString "__module__") 530, val := Value.str (Str.ofString "cpy313.graphlib") 460 }, { hash := PyData.keyHash P (Str.ofString "__firstlineno__"), key := Value.str (Str.ofString "__firstlineno__") 534, val := Value.int 142 533 }, { hash := PyData.keyHash P (Str.ofString "__init__"), key := Value.str (Str.ofString "__init__") 544, val := Value.ref 196 }, { hash := PyData.keyHash P (Str.ofString "_get_nodeinfo"), key := Value.str (Str.ofString "_get_nodeinfo") 553, val := Value.ref 203 }, { hash := PyData.keyHash P (Str.ofString "add"), key := Value.str (Str.ofString "add") 565, val := Value.ref 210 }, { hash := PyData.keyHash P (Str.ofString "prepare"), key := Value.str (Str.ofString "prepare") 571, val := Value.ref 215 }, { hash := PyData.keyHash P (Str.ofString "get_ready"), key := Value.str (Str.ofString "get_ready") 581, val := Value.ref 222 }, { hash := PyData.keyHash P (Str.ofString "is_active"), key := Value.str (Str.ofString "is_active") 588, val := Value.ref 229 }, { hash := PyData.keyHash P (Str.ofString "__bool__"), key := Value.str (Str.ofString "__bool__") 595, val := Value.ref 236 }, { hash := PyData.keyHash P (Str.ofString "done"), key := Value.str (Str.ofString "done") 609, val := Value.ref 243 }, { hash := PyData.keyHash P (Str.ofString "_find_cycle"), key := Value.str (Str.ofString "_find_cycle") 622, val := Value.ref 250 }, { hash := PyData.keyHash P (Str.ofString "static_order"), key := Value.str (Str.ofString "static_order") 629, val := Value.ref 257 }, { hash := PyData.keyHash P (Str.ofString "__static_attributes__"), key := Value.str (Str.ofString "__static_attributes__") 634, val := Value.ref 258 }, { hash := PyData.keyHash P (Str.ofString "__dict__"), key := Value.str (Str.ofString "__dict__") 636, val := Value.ref 261 }, { hash := PyData.keyHash P (Str.ofString "__weakref__"), key := Value.str (Str.ofString "__weakref__") 638, val := Value.ref 262 }, { hash := PyData.keyHash P (Str.ofString "__doc__"), key := Value.str (Str.ofString "__doc__") 639, val := Value.none }] 4 }
noncomputable def o260 (P : Params) : Obj := { cls := Value.type "type", data := Data.cls { name := Str.ofString "TopologicalSorter", bases := [Value.type "object"], mro := [Value.ref 260, Value.type "object"], ns := 259, qualname := Str.ofString "TopologicalSorter" }, slots := #[none, none, some (Value.str (Str.ofString "TopologicalSorter") 523), some (Value.str (Str.ofString "TopologicalSorter") 531), some (Value.builtin "object.__new__"), some (Value.bool true)] }
noncomputable def o261 (P : Params) : Obj := { cls := Value.type "getset_descriptor", data := Data.fields #[Value.str (Str.ofString "__dict__") 635, Value.ref 260, Value.builtin "function.__dict__", Value.builtin "function.__dict__#set"] }
noncomputable def o262 (P : Params) : Obj := { cls := Value.type "getset_descriptor", data := Data.fields #[Value.str (Str.ofString "__weakref__") 637, Value.ref 260, Value.builtin "ExceptionGroup.__weakref__", Value.none] }
noncomputable def o263 (P : Params) : Obj := { cls := Value.type "super", data := Data.fields #[Value.ref 260, Value.ref 260, Value.ref 260] }
noncomputable def o264 (P : Params) : Obj := { cls := Value.type "builtin_function_or_method", data := Data.fields #[Value.builtin "object.__init_subclass__", Value.ref 260] }
noncomputable def o3v5 (P : Params) : Obj := { cls := Value.type "dict", data := Data.dict #[{ hash := PyData.keyHash P (Str.ofString "__name__"), key := Value.str (Str.ofString "__name__") 165, val := Value.str (Str.ofString "law_pa0056_01") 642 }, { hash := PyData.keyHash P (Str.ofString "__doc__"), key := Value.str (Str.ofString "__doc__") 166, val := Value.none }, { hash := PyData.keyHash P (Str.ofString "__package__"), key := Value.str (Str.ofString "__package__") 167, val := Value.none }, { hash := PyData.keyHash P (Str.ofString "__loader__"), key := Value.str (Str.ofString "__loader__") 168, val := Value.builtin "__main__.__loader__#opaque" }, { hash := PyData.keyHash P (Str.ofString "__spec__"), key := Value.str (Str.ofString "__spec__") 169, val := Value.none }, { hash := PyData.keyHash P (Str.ofString "__annotations__"), key := Value.str (Str.ofString "__annotations__") 170, val := Value.ref 6 }, { hash := PyData.keyHash P (Str.ofString "__builtins__"), key := Value.str (Str.ofString "__builtins__") 171, val := Value.ref 4 }, { hash := PyData.keyHash P (Str.ofString "__file__"), key := Value.str (Str.ofString "__file__") 173, val := Value.str (Str.ofString "/claim/cut.py") 172 }, { hash := PyData.keyHash P (Str.ofString "__cached__"), key := Value.str (Str.ofString "__cached__") 174, val := Value.none }, { hash := PyData.keyHash P (Str.ofString "_sre"), key := Value.str (Str.ofString "_sre") 275, val := Value.ref 12 }, { hash := PyData.keyHash P (Str.ofString "_wall"), key := Value.str (Str.ofString "_wall") 288, val := Value.ref 38 }, { hash := PyData.keyHash P (Str.ofString "heappush"), key := Value.str (Str.ofString "heappush") 298, val := Value.ref 45 }, { hash := PyData.keyHash P (Str.ofString "heappop"), key := Value.str (Str.ofString "heappop") 307, val := Value.ref 52 }, { hash := PyData.keyHash P (Str.ofString "_siftdown"), key := Value.str (Str.ofString "_siftdown") 319, val := Value.ref 59 }, { hash := PyData.keyHash P (Str.ofString "_siftup"), key := Value.str (Str.ofString "_siftup") 332, val := Value.ref 66 }, { hash := PyData.keyHash P (Str.ofString "_twin_re_1"), key := Value.str (Str.ofString "_twin_re_1") 364, val := Value.ref 71 }, { hash := PyData.keyHash P (Str.ofString "bytes_types"), key := Value.str (Str.ofString "bytes_types") 365, val := Value.ref 72 }, { hash := PyData.keyHash P (Str.ofString "_bytes_from_decode_data"), key := Value.str (Str.ofString "_bytes_from_decode_data") 372, val := Value.ref 79 }, { hash := PyData.keyHash P (Str.ofString "Error"), key := Value.str (Str.ofString "Error") 392, val := Value.ref 89 }, { hash := PyData.keyHash P (Str.ofString "_ascii_buffer"), key := Value.str (Str.ofString "_ascii_buffer") 400, val := Value.ref 99 }, { hash := PyData.keyHash P (Str.ofString "_buffer"), key := Value.str (Str.ofString "_buffer") 408, val := Value.ref 106 }, { hash := PyData.keyHash P (Str.ofString "_NO_SEP"), key := Value.str (Str.ofString "_NO_SEP") 409, val := Value.ref 107 }, { hash := PyData.keyHash P (Str.ofString "b2a_hex"), key := Value.str (Str.ofString "b2a_hex") 420, val := Value.ref 115 }, { hash := PyData.keyHash P (Str.ofString "hexlify"), key := Value.str (Str.ofString "hexlify") 421, val := Value.ref 115 }, { hash := PyData.keyHash P (Str.ofString "_hex_value"), key := Value.str (Str.ofString "_hex_value") 428, val := Value.ref 122 }, { hash := PyData.keyHash P (Str.ofString "a2b_hex"), key := Value.str (Str.ofString "a2b_hex") 441, val := Value.ref 129 }, { hash := PyData.keyHash P (Str.ofString "unhexlify"), key := Value.str (Str.ofString "unhexlify") 442, val := Value.ref 129 }, { hash := PyData.keyHash P (Str.ofString "b16encode"), key := Value.str (Str.ofString "b16encode") 451, val := Value.ref 136 }, { hash := PyData.keyHash P (Str.ofString "b16decode"), key := Value.str (Str.ofString "b16decode") 459, val := Value.ref 144 }, { hash := PyData.keyHash P (Str.ofString "_NODE_OUT"), key := Value.str (Str.ofString "_NODE_OUT") 464, val := Value.int (-1) 463 }, { hash := PyData.keyHash P (Str.ofString "_NODE_DONE"), key := Value.str (Str.ofString "_NODE_DONE") 467, val := Value.int (-2) 466 }, { hash := PyData.keyHash P (Str.ofString "_NodeInfo"), key := Value.str (Str.ofString "_NodeInfo") 504, val := Value.ref 163 }, { hash := PyData.keyHash P (Str.ofString "CycleError"), key := Value.str (Str.ofString "CycleError") 522, val := Value.ref 178 }, { hash := PyData.keyHash P (Str.ofString "TopologicalSorter"), key := Value.str (Str.ofString "TopologicalSorter") 641, val := Value.ref 260 }, { hash := PyData.keyHash P (Str.ofString "_law_octets"), key := Value.str (Str.ofString "_law_octets") 649, val := Value.ref 269 }, { hash := PyData.keyHash P (Str.ofString "_law_turn"), key := Value.str (Str.ofString "_law_turn") 655, val := Value.ref 274 }, { hash := PyData.keyHash P (Str.ofString "_law_served"), key := Value.str (Str.ofString "_law_served") 661, val := Value.ref 279 }, { hash := PyData.keyHash P (Str.ofString "_law_handed"), key := Value.str (Str.ofString "_law_handed") 667, val := Value.ref 284 }, { hash := PyData.keyHash P (Str.ofString "law"), key := Value.str (Str.ofString "law") 673, val := Value.ref 289 }] 39 }
noncomputable def o29v4 (P : Params) : Obj := { cls := Value.none, data := Data.fields #[Value.int 2 0, Value.int 0 0, Value.ref 37, Value.int 6 0, Value.int 0 0, Value.ref 44, Value.int 9 0, Value.int 0 0, Value.ref 51, Value.int 17 0, Value.int 0 0, Value.ref 58, Value.int 28 0, Value.int 0 0, Value.ref 65, Value.int 45 0, Value.int 0 0, Value.ref 78, Value.int 58 0, Value.int 0 0, Value.ref 85, Value.int 60 0, Value.int 0 0, Value.ref 98, Value.int 71 0, Value.int 0 0, Value.ref 105, Value.int 79 0, Value.int 0 0, Value.ref 114, Value.int 96 0, Value.int 0 0, Value.ref 121, Value.int 104 0, Value.int 0 0, Value.ref 128, Value.int 121 0, Value.int 0 0, Value.ref 135, Value.int 123 0, Value.int 0 0, Value.ref 143, Value.int 133 0, Value.int 0 0, Value.ref 150, Value.int 140 0, Value.int 0 0, Value.ref 174, Value.int 142 0, Value.int 0 0, Value.ref 187, Value.int 249 0, Value.int 0 0, Value.ref 268, Value.int 253 0, Value.int 0 0, Value.ref 273, Value.int 261 0, Value.int 0 0, Value.ref 278, Value.int 275 0, Value.int 0 0, Value.ref 283, Value.int 285 0, Value.int 0 0, Value.ref 288] }
noncomputable def o267 (P : Params) : Obj := unC <| fnO (stA 31) (Str.ofString "_law_octets") (0) ([]) (Value.none) (Value.none) (Value.none) (Value.none) (none) (Value.none) (Value.none) (0)
noncomputable def o268 (P : Params) : Obj := { cls := Value.type "code", data := Data.fields #[Value.str (Str.ofString "_law_octets") 644, Value.str (Str.ofString "_law_octets") 645, Value.str (Str.ofString "/claim/cut.py") 646, Value.int 249 0, Value.int 1 0, Value.int 0 0, Value.int 0 0, Value.int 3 0, Value.ref 265, Value.bool true, Value.int 276 0, Value.ref 266, Value.none, Value.none, Value.none, Value.ref 267, Value.int 647 0, Value.int 249 0, Value.str (Str.ofString "/claim/cut.py") 648] }
noncomputable def o269 (P : Params) : Obj := fnO (stA 31) (Str.ofString "_law_octets") (3) ([]) (Value.none) (Value.none) (Value.none) (Value.str (Str.ofString "law_pa0056_01") 642) (none) (Value.ref 268) (Value.none) (0)
noncomputable def o272 (P : Params) : Obj := unC <| fnO (stA 32) (Str.ofString "_law_turn") (0) ([]) (Value.none) (Value.none) (Value.none) (Value.none) (none) (Value.none) (Value.none) (0)
noncomputable def o273 (P : Params) : Obj := { cls := Value.type "code", data := Data.fields #[Value.str (Str.ofString "_law_turn") 650, Value.str (Str.ofString "_law_turn") 651, Value.str (Str.ofString "/claim/cut.py") 652, Value.int 253 0, Value.int 1 0, Value.int 0 0, Value.int 0 0, Value.int 3 0, Value.ref 270, Value.bool true, Value.int 276 0, Value.ref 271, Value.none, Value.none, Value.none, Value.ref 272, Value.int 653 0, Value.int 253 0, Value.str (Str.ofString "/claim/cut.py") 654] }
noncomputable def o274 (P : Params) : Obj := fnO (stA 32) (Str.ofString "_law_turn") (3) ([]) (Value.none) (Value.none) (Value.none) (Value.str (Str.ofString "law_pa0056_01") 642) (none) (Value.ref 273) (Value.none) (0)
noncomputable def o277 (P : Params) : Obj := unC <| fnO (stA 33) (Str.ofString "_law_served") (0) ([]) (Value.none) (Value.none) (Value.none) (Value.none) (none) (Value.none) (Value.none) (0)
noncomputable def o278 (P : Params) : Obj := { cls := Value.type "code", data := Data.fields #[Value.str (Str.ofString "_law_served") 656, Value.str (Str.ofString "_law_served") 657, Value.str (Str.ofString "/claim/cut.py") 658, Value.int 261 0, Value.int 4 0, Value.int 0 0, Value.int 0 0, Value.int 3 0, Value.ref 275, Value.bool true, Value.int 276 0, Value.ref 276, Value.none, Value.none, Value.none, Value.ref 277, Value.int 659 0, Value.int 261 0, Value.str (Str.ofString "/claim/cut.py") 660] }
noncomputable def o279 (P : Params) : Obj := fnO (stA 33) (Str.ofString "_law_served") (3) ([]) (Value.none) (Value.none) (Value.none) (Value.str (Str.ofString "law_pa0056_01") 642) (none) (Value.ref 278) (Value.none) (0)
noncomputable def o282 (P : Params) : Obj := unC <| fnO (stA 34) (Str.ofString "_law_handed") (0) ([]) (Value.none) (Value.none) (Value.none) (Value.none) (none) (Value.none) (Value.none) (0)
noncomputable def o283 (P : Params) : Obj := { cls := Value.type "code", data := Data.fields #[Value.str (Str.ofString "_law_handed") 662, Value.str (Str.ofString "_law_handed") 663, Value.str (Str.ofString "/claim/cut.py") 664, Value.int 275 0, Value.int 1 0, Value.int 0 0, Value.int 0 0, Value.int 3 0, Value.ref 280, Value.bool true, Value.int 276 0, Value.ref 281, Value.none, Value.none, Value.none, Value.ref 282, Value.int 665 0, Value.int 275 0, Value.str (Str.ofString "/claim/cut.py") 666] }
noncomputable def o284 (P : Params) : Obj := fnO (stA 34) (Str.ofString "_law_handed") (3) ([]) (Value.none) (Value.none) (Value.none) (Value.str (Str.ofString "law_pa0056_01") 642) (none) (Value.ref 283) (Value.none) (0)
noncomputable def o287 (P : Params) : Obj := unC <| fnO (stA 35) (Str.ofString "law") (0) ([]) (Value.none) (Value.none) (Value.none) (Value.none) (none) (Value.none) (Value.none) (0)
noncomputable def o288 (P : Params) : Obj := { cls := Value.type "code", data := Data.fields #[Value.str (Str.ofString "law") 668, Value.str (Str.ofString "law") 669, Value.str (Str.ofString "/claim/cut.py") 670, Value.int 285 0, Value.int 1 0, Value.int 0 0, Value.int 0 0, Value.int 3 0, Value.ref 285, Value.bool true, Value.int 276 0, Value.ref 286, Value.none, Value.none, Value.none, Value.ref 287, Value.int 671 0, Value.int 285 0, Value.str (Str.ofString "/claim/cut.py") 672] }
noncomputable def o289 (P : Params) : Obj := fnO (stA 35) (Str.ofString "law") (3) ([]) (Value.none) (Value.none) (Value.none) (Value.str (Str.ofString "law_pa0056_01") 642) (none) (Value.ref 288) (Value.none) (0)
noncomputable def o11e (P : Params) : Obj := { cls := Value.type "dict", data := Data.dict #[{ hash := PyData.keyHash P (Str.ofString "__name__"), key := Value.str (Str.ofString "__name__") 247, val := Value.str (Str.ofString "_sre") 246 }, { hash := PyData.keyHash P (Str.ofString "__doc__"), key := Value.str (Str.ofString "__doc__") 248, val := Value.none }, { hash := PyData.keyHash P (Str.ofString "__package__"), key := Value.str (Str.ofString "__package__") 250, val := Value.str (Str.ofString "") 249 }, { hash := PyData.keyHash P (Str.ofString "__loader__"), key := Value.str (Str.ofString "__loader__") 251, val := Value.ref 14 }, { hash := PyData.keyHash P (Str.ofString "__spec__"), key := Value.str (Str.ofString "__spec__") 252, val := Value.ref 26 }, { hash := PyData.keyHash P (Str.ofString "compile"), key := Value.str (Str.ofString "compile") 253, val := Value.builtin "_sre.compile" }, { hash := PyData.keyHash P (Str.ofString "template"), key := Value.str (Str.ofString "template") 254, val := Value.builtin "_sre.template" }, { hash := PyData.keyHash P (Str.ofString "getcodesize"), key := Value.str (Str.ofString "getcodesize") 255, val := Value.builtin "_sre.getcodesize" }, { hash := PyData.keyHash P (Str.ofString "ascii_iscased"), key := Value.str (Str.ofString "ascii_iscased") 256, val := Value.builtin "_sre.ascii_iscased" }, { hash := PyData.keyHash P (Str.ofString "unicode_iscased"), key := Value.str (Str.ofString "unicode_iscased") 257, val := Value.builtin "_sre.unicode_iscased" }, { hash := PyData.keyHash P (Str.ofString "ascii_tolower"), key := Value.str (Str.ofString "ascii_tolower") 258, val := Value.builtin "_sre.ascii_tolower" }, { hash := PyData.keyHash P (Str.ofString "unicode_tolower"), key := Value.str (Str.ofString "unicode_tolower") 259, val := Value.builtin "_sre.unicode_tolower" }, { hash := PyData.keyHash P (Str.ofString "MAGIC"), key := Value.str (Str.ofString "MAGIC") 261, val := Value.int 20230612 260 }, { hash := PyData.keyHash P (Str.ofString "CODESIZE"), key := Value.str (Str.ofString "CODESIZE") 263, val := Value.int 4 262 }, { hash := PyData.keyHash P (Str.ofString "MAXREPEAT"), key := Value.str (Str.ofString "MAXREPEAT") 265, val := Value.int 4294967295 264 }, { hash := PyData.keyHash P (Str.ofString "MAXGROUPS"), key := Value.str (Str.ofString "MAXGROUPS") 267, val := Value.int 1073741823 266 }, { hash := PyData.keyHash P (Str.ofString "copyright"), key := Value.str (Str.ofString "copyright") 269, val := Value.str (Str.ofString " SRE 2.2.2 Copyright (c) 1997-2002 by Secret Labs AB ") 268 }] 17 }
noncomputable def H0 (P : Params) : Heap := ⟨⟨[boot_o_0 P, o1 P, o2 P, o3 P, boot_o_4 P, boot_o_5 P, boot_o_6 P, boot_o_7 P, boot_o_8 P, boot_o_9 P, boot_o_10 P, o11 P, o12 P, o13 P, o14 P, boot_o_7 P, o16 P, o17 P, o18 P, o19 P, o20 P, o21 P, o22 P, o23 P, o24 P, o25 P, o26 P, o27 P]⟩, { }⟩
noncomputable def Ha (P : Params) : Heap := ⟨⟨[boot_o_0 P, o1 P, o2 P, o3 P, boot_o_4 P, boot_o_5 P, boot_o_6 P, boot_o_7 P, boot_o_8 P, boot_o_9 P, boot_o_10 P, o11 P, o12 P, o13 P, o14 P, boot_o_7 P, o16 P, o17 P, o18 P, o19 P, o20 P, o21 P, o22 P, o23 P, o24 P, o25 P, o26 P, o27 P, boot_o_7 P, boot_o_8 P, o30 P, o31 P]⟩, { }⟩
noncomputable def Hc12 (P : Params) : Heap := ⟨⟨[boot_o_0 P, o1 P, o2 P, o3v1 P, boot_o_4 P, boot_o_5 P, boot_o_6 P, boot_o_7 P, boot_o_8 P, boot_o_9 P, boot_o_10 P, o11 P, o12 P, o13 P, o14 P, boot_o_7 P, o16 P, o17 P, o18 P, o19 P, o20 P, o21 P, o22 P, o23 P, o24 P, o25 P, o26 P, o27 P, boot_o_7 P, o29 P, o30 P, o31 P, boot_o_7 P, boot_o_8 P, o34 P, boot_o_7 P, o36 P, o37 P, o38 P, boot_o_7 P, boot_o_8 P, o41 P, boot_o_7 P, o43 P, o44 P, o45 P, boot_o_7 P, boot_o_8 P, o48 P, boot_o_7 P, o50 P, o51 P, o52 P, boot_o_7 P, boot_o_8 P, o55 P, boot_o_7 P, o57 P, o58 P, o59 P, boot_o_7 P, boot_o_8 P, o62 P, boot_o_7 P, o64 P, o65 P, o66 P, o67 P, boot_o_6 P, o69 P, o70 P, o71 P, o72 P, boot_o_7 P, boot_o_8 P, o75 P, boot_o_7 P, o77 P, o78 P, o79 P, o80 P, o81 P, o82 P, boot_o_7 P, boot_o_8 P, o85 P, o86 P, boot_o_7 P, o88 P, o89 P, o90 P, o91 P, o92 P, boot_o_7 P, boot_o_8 P, o95 P, boot_o_7 P, o97 P, o98 P, o99 P]⟩, { }⟩
noncomputable def Hc25 (P : Params) : Heap := ⟨⟨[boot_o_0 P, o1 P, o2 P, o3v2 P, boot_o_4 P, boot_o_5 P, boot_o_6 P, boot_o_7 P, boot_o_8 P, boot_o_9 P, boot_o_10 P, o11 P, o12 P, o13 P, o14 P, boot_o_7 P, o16 P, o17 P, o18 P, o19 P, o20 P, o21 P, o22 P, o23 P, o24 P, o25 P, o26 P, o27 P, boot_o_7 P, o29v1 P, o30 P, o31 P, boot_o_7 P, boot_o_8 P, o34 P, boot_o_7 P, o36 P, o37 P, o38 P, boot_o_7 P, boot_o_8 P, o41 P, boot_o_7 P, o43 P, o44 P, o45 P, boot_o_7 P, boot_o_8 P, o48 P, boot_o_7 P, o50 P, o51 P, o52 P, boot_o_7 P, boot_o_8 P, o55 P, boot_o_7 P, o57 P, o58 P, o59 P, boot_o_7 P, boot_o_8 P, o62 P, boot_o_7 P, o64 P, o65 P, o66 P, o67 P, boot_o_6 P, o69 P, o70 P, o71 P, o72 P, boot_o_7 P, boot_o_8 P, o75 P, boot_o_7 P, o77 P, o78 P, o79 P, o80 P, o81 P, o82 P, boot_o_7 P, boot_o_8 P, o85 P, o86 P, boot_o_7 P, o88 P, o89 P, o90 P, o91 P, o92 P, boot_o_7 P, boot_o_8 P, o95 P, boot_o_7 P, o97 P, o98 P, o99 P, boot_o_7 P, boot_o_8 P, o102 P, boot_o_7 P, o104 P, o105 P, o106 P, o107 P, o108 P, boot_o_7 P, boot_o_8 P, o111 P, boot_o_7 P, o113 P, o114 P, o115 P, boot_o_7 P, boot_o_8 P, o118 P, boot_o_7 P, o120 P, o121 P, o122 P, boot_o_7 P, boot_o_8 P, o125 P, boot_o_7 P, o127 P, o128 P, o129 P, boot_o_7 P, boot_o_8 P, o132 P, boot_o_7 P, o134 P, o135 P, o136 P, o137 P, boot_o_7 P, boot_o_8 P, o140 P, boot_o_7 P, o142 P, o143 P, o144 P]⟩, { }⟩
noncomputable def Hc27 (P : Params) : Heap := ⟨⟨[boot_o_0 P, o1 P, o2 P, o3v3 P, boot_o_4 P, boot_o_5 P, boot_o_6 P, boot_o_7 P, boot_o_8 P, boot_o_9 P, boot_o_10 P, o11 P, o12 P, o13 P, o14 P, boot_o_7 P, o16 P, o17 P, o18 P, o19 P, o20 P, o21 P, o22 P, o23 P, o24 P, o25 P, o26 P, o27 P, boot_o_7 P, o29v2 P, o30 P, o31 P, boot_o_7 P, boot_o_8 P, o34 P, boot_o_7 P, o36 P, o37 P, o38 P, boot_o_7 P, boot_o_8 P, o41 P, boot_o_7 P, o43 P, o44 P, o45 P, boot_o_7 P, boot_o_8 P, o48 P, boot_o_7 P, o50 P, o51 P, o52 P, boot_o_7 P, boot_o_8 P, o55 P, boot_o_7 P, o57 P, o58 P, o59 P, boot_o_7 P, boot_o_8 P, o62 P, boot_o_7 P, o64 P, o65 P, o66 P, o67 P, boot_o_6 P, o69 P, o70 P, o71 P, o72 P, boot_o_7 P, boot_o_8 P, o75 P, boot_o_7 P, o77 P, o78 P, o79 P, o80 P, o81 P, o82 P, boot_o_7 P, boot_o_8 P, o85 P, o86 P, boot_o_7 P, o88 P, o89 P, o90 P, o91 P, o92 P, boot_o_7 P, boot_o_8 P, o95 P, boot_o_7 P, o97 P, o98 P, o99 P, boot_o_7 P, boot_o_8 P, o102 P, boot_o_7 P, o104 P, o105 P, o106 P, o107 P, o108 P, boot_o_7 P, boot_o_8 P, o111 P, boot_o_7 P, o113 P, o114 P, o115 P, boot_o_7 P, boot_o_8 P, o118 P, boot_o_7 P, o120 P, o121 P, o122 P, boot_o_7 P, boot_o_8 P, o125 P, boot_o_7 P, o127 P, o128 P, o129 P, boot_o_7 P, boot_o_8 P, o132 P, boot_o_7 P, o134 P, o135 P, o136 P, o137 P, boot_o_7 P, boot_o_8 P, o140 P, boot_o_7 P, o142 P, o143 P, o144 P, boot_o_7 P, o81 P, o147 P, boot_o_7 P, o149 P, o150 P, o151 P, o152 P, boot_o_7 P, boot_o_8 P, o155 P, boot_o_7 P, o157 P, o158 P, o159 P, o160 P, o161 P, o162 P, o163 P, o164 P, o165 P, o166 P, o167 P, o168 P, o80 P, o81 P, o171 P, boot_o_7 P, boot_o_8 P, o174 P, o175 P, boot_o_7 P, o177 P, o178 P, o179 P, o180 P, o181 P]⟩, { }⟩
noncomputable def Hc28 (P : Params) : Heap := ⟨⟨[boot_o_0 P, o1 P, o2 P, o3v4 P, boot_o_4 P, boot_o_5 P, boot_o_6 P, boot_o_7 P, boot_o_8 P, boot_o_9 P, boot_o_10 P, o11 P, o12 P, o13 P, o14 P, boot_o_7 P, o16 P, o17 P, o18 P, o19 P, o20 P, o21 P, o22 P, o23 P, o24 P, o25 P, o26 P, o27 P, boot_o_7 P, o29v3 P, o30 P, o31 P, boot_o_7 P, boot_o_8 P, o34 P, boot_o_7 P, o36 P, o37 P, o38 P, boot_o_7 P, boot_o_8 P, o41 P, boot_o_7 P, o43 P, o44 P, o45 P, boot_o_7 P, boot_o_8 P, o48 P, boot_o_7 P, o50 P, o51 P, o52 P, boot_o_7 P, boot_o_8 P, o55 P, boot_o_7 P, o57 P, o58 P, o59 P, boot_o_7 P, boot_o_8 P, o62 P, boot_o_7 P, o64 P, o65 P, o66 P, o67 P, boot_o_6 P, o69 P, o70 P, o71 P, o72 P, boot_o_7 P, boot_o_8 P, o75 P, boot_o_7 P, o77 P, o78 P, o79 P, o80 P, o81 P, o82 P, boot_o_7 P, boot_o_8 P, o85 P, o86 P, boot_o_7 P, o88 P, o89 P, o90 P, o91 P, o92 P, boot_o_7 P, boot_o_8 P, o95 P, boot_o_7 P, o97 P, o98 P, o99 P, boot_o_7 P, boot_o_8 P, o102 P, boot_o_7 P, o104 P, o105 P, o106 P, o107 P, o108 P, boot_o_7 P, boot_o_8 P, o111 P, boot_o_7 P, o113 P, o114 P, o115 P, boot_o_7 P, boot_o_8 P, o118 P, boot_o_7 P, o120 P, o121 P, o122 P, boot_o_7 P, boot_o_8 P, o125 P, boot_o_7 P, o127 P, o128 P, o129 P, boot_o_7 P, boot_o_8 P, o132 P, boot_o_7 P, o134 P, o135 P, o136 P, o137 P, boot_o_7 P, boot_o_8 P, o140 P, boot_o_7 P, o142 P, o143 P, o144 P, boot_o_7 P, o81 P, o147 P, boot_o_7 P, o149 P, o150 P, o151 P, o152 P, boot_o_7 P, boot_o_8 P, o155 P, boot_o_7 P, o157 P, o158 P, o159 P, o160 P, o161 P, o162 P, o163 P, o164 P, o165 P, o166 P, o167 P, o168 P, o80 P, o81 P, o171 P, boot_o_7 P, boot_o_8 P, o174 P, o175 P, boot_o_7 P, o177 P, o178 P, o179 P, o180 P, o181 P, boot_o_7 P, o81 P, o184 P, boot_o_7 P, o186 P, o187 P, o188 P, o69 P, boot_o_7 P, boot_o_8 P, o192 P, boot_o_7 P, o194 P, o195 P, o196 P, boot_o_7 P, boot_o_8 P, o199 P, boot_o_7 P, o201 P, o202 P, o203 P, boot_o_7 P, boot_o_8 P, o206 P, boot_o_7 P, o208 P, o209 P, o210 P, boot_o_7 P, boot_o_8 P, o213 P, o214 P, o215 P, boot_o_7 P, boot_o_8 P, o218 P, boot_o_7 P, o220 P, o221 P, o222 P, boot_o_7 P, boot_o_8 P, o225 P, boot_o_7 P, o227 P, o228 P, o229 P, boot_o_7 P, boot_o_8 P, o232 P, boot_o_7 P, o234 P, o235 P, o236 P, boot_o_7 P, boot_o_8 P, o239 P, boot_o_7 P, o241 P, o242 P, o243 P, boot_o_7 P, boot_o_8 P, o246 P, boot_o_7 P, o248 P, o249 P, o250 P, boot_o_7 P, boot_o_8 P, o253 P, boot_o_7 P, o255 P, o256 P, o257 P, o258 P, o259 P, o260 P, o261 P, o262 P, o263 P, o264 P]⟩, { }⟩
noncomputable def Hc34 (P : Params) : Heap := ⟨⟨[boot_o_0 P, o1 P, o2 P, o3v5 P, boot_o_4 P, boot_o_5 P, boot_o_6 P, boot_o_7 P, boot_o_8 P, boot_o_9 P, boot_o_10 P, o11 P, o12 P, o13 P, o14 P, boot_o_7 P, o16 P, o17 P, o18 P, o19 P, o20 P, o21 P, o22 P, o23 P, o24 P, o25 P, o26 P, o27 P, boot_o_7 P, o29v4 P, o30 P, o31 P, boot_o_7 P, boot_o_8 P, o34 P, boot_o_7 P, o36 P, o37 P, o38 P, boot_o_7 P, boot_o_8 P, o41 P, boot_o_7 P, o43 P, o44 P, o45 P, boot_o_7 P, boot_o_8 P, o48 P, boot_o_7 P, o50 P, o51 P, o52 P, boot_o_7 P, boot_o_8 P, o55 P, boot_o_7 P, o57 P, o58 P, o59 P, boot_o_7 P, boot_o_8 P, o62 P, boot_o_7 P, o64 P, o65 P, o66 P, o67 P, boot_o_6 P, o69 P, o70 P, o71 P, o72 P, boot_o_7 P, boot_o_8 P, o75 P, boot_o_7 P, o77 P, o78 P, o79 P, o80 P, o81 P, o82 P, boot_o_7 P, boot_o_8 P, o85 P, o86 P, boot_o_7 P, o88 P, o89 P, o90 P, o91 P, o92 P, boot_o_7 P, boot_o_8 P, o95 P, boot_o_7 P, o97 P, o98 P, o99 P, boot_o_7 P, boot_o_8 P, o102 P, boot_o_7 P, o104 P, o105 P, o106 P, o107 P, o108 P, boot_o_7 P, boot_o_8 P, o111 P, boot_o_7 P, o113 P, o114 P, o115 P, boot_o_7 P, boot_o_8 P, o118 P, boot_o_7 P, o120 P, o121 P, o122 P, boot_o_7 P, boot_o_8 P, o125 P, boot_o_7 P, o127 P, o128 P, o129 P, boot_o_7 P, boot_o_8 P, o132 P, boot_o_7 P, o134 P, o135 P, o136 P, o137 P, boot_o_7 P, boot_o_8 P, o140 P, boot_o_7 P, o142 P, o143 P, o144 P, boot_o_7 P, o81 P, o147 P, boot_o_7 P, o149 P, o150 P, o151 P, o152 P, boot_o_7 P, boot_o_8 P, o155 P, boot_o_7 P, o157 P, o158 P, o159 P, o160 P, o161 P, o162 P, o163 P, o164 P, o165 P, o166 P, o167 P, o168 P, o80 P, o81 P, o171 P, boot_o_7 P, boot_o_8 P, o174 P, o175 P, boot_o_7 P, o177 P, o178 P, o179 P, o180 P, o181 P, boot_o_7 P, o81 P, o184 P, boot_o_7 P, o186 P, o187 P, o188 P, o69 P, boot_o_7 P, boot_o_8 P, o192 P, boot_o_7 P, o194 P, o195 P, o196 P, boot_o_7 P, boot_o_8 P, o199 P, boot_o_7 P, o201 P, o202 P, o203 P, boot_o_7 P, boot_o_8 P, o206 P, boot_o_7 P, o208 P, o209 P, o210 P, boot_o_7 P, boot_o_8 P, o213 P, o214 P, o215 P, boot_o_7 P, boot_o_8 P, o218 P, boot_o_7 P, o220 P, o221 P, o222 P, boot_o_7 P, boot_o_8 P, o225 P, boot_o_7 P, o227 P, o228 P, o229 P, boot_o_7 P, boot_o_8 P, o232 P, boot_o_7 P, o234 P, o235 P, o236 P, boot_o_7 P, boot_o_8 P, o239 P, boot_o_7 P, o241 P, o242 P, o243 P, boot_o_7 P, boot_o_8 P, o246 P, boot_o_7 P, o248 P, o249 P, o250 P, boot_o_7 P, boot_o_8 P, o253 P, boot_o_7 P, o255 P, o256 P, o257 P, o258 P, o259 P, o260 P, o261 P, o262 P, o263 P, o264 P, boot_o_7 P, boot_o_8 P, o267 P, o268 P, o269 P, boot_o_7 P, boot_o_8 P, o272 P, o273 P, o274 P, boot_o_7 P, boot_o_8 P, o277 P, o278 P, o279 P, boot_o_7 P, boot_o_8 P, o282 P, o283 P, o284 P, boot_o_7 P, boot_o_8 P, o287 P, o288 P, o289 P]⟩, { }⟩
abbrev pR : Program := rw0.row.prog
noncomputable abbrev bR : List Stmt := behindTheImports pR
noncomputable def envR : Env := { scope := pR.main.scope, locals := mainNs, globals := mainNs, cells := [], code := .ref 30, frame := some 31 }
noncomputable abbrev cR : Code := .body bR envR
abbrev p0 : Pos := ⟨0, 0, 0, 0⟩
noncomputable def sts0 : List Stmt := (bR.drop 0).take 13
noncomputable def sts1 : List Stmt := (bR.drop 13).take 13
noncomputable def sts2 : List Stmt := (bR.drop 26).take 2
noncomputable def sts3 : List Stmt := (bR.drop 28).take 1
noncomputable def sts4 : List Stmt := (bR.drop 29).take 6
noncomputable abbrev sh (H : Params → Heap) (k : Nat) (w : World) (os : OsState) : Shared := ⟨H w.params, #[], {}, k, os⟩
noncomputable def T0 (P : Params) : BT := (.node (boot_o_0 P) (.node (o1 P) (.node (o3 P) (.node (boot_o_7 P) (.node (boot_o_7 P) .nil .nil) (.node (o23 P) .nil .nil)) (.node (o11e P) (.node (o19 P) .nil .nil) (.node (o27 P) .nil .nil))) (.node (boot_o_5 P) (.node (boot_o_9 P) (.node (o17 P) .nil .nil) (.node (o25 P) .nil .nil)) (.node (o13 P) (.node (o21 P) .nil .nil) .nil))) (.node (o2 P) (.node (boot_o_4 P) (.node (boot_o_8 P) (.node (o16 P) .nil .nil) (.node (o24 P) .nil .nil)) (.node (o12 P) (.node (o20 P) .nil .nil) .nil)) (.node (boot_o_6 P) (.node (boot_o_10 P) (.node (o18 P) .nil .nil) (.node (o26 P) .nil .nil)) (.node (o14 P) (.node (o22 P) .nil .nil) .nil))))
noncomputable abbrev osR : OsState := (start (opening pR)).1.os
noncomputable abbrev st0 : SharedT := ⟨.nil, 0, {}, #[], {}, 1, osR⟩
noncomputable abbrev st1 (w : World) : SharedT := ⟨T0 w.params, 28, {}, #[], {}, 276, osR⟩
theorem r_imp (w : World) : (impGoT treeTable (opening pR) w 798 st0 (start (opening pR)).2).map (fun x => (x.1, x.2.atExitBegin)) = some (st1 w, some []) := by
  rw [PySem.W.Fast.te14789777615569096658, PySem.W.Fast.te14364793385576792824]
  kernel_rfl
theorem r_start : st0.abs = (start (opening pR)).1 := by kernel_rfl
theorem r_ends (w : World) : importEnds treeTable (opening pR) w 799 (start (opening pR)).1 (start (opening pR)).2 = some ⟨absHeap (T0 w.params) 28 {}, #[], {}, 276, (start (opening pR)).1.os⟩ := by
  obtain ⟨⟨s', t'⟩, h1, h2⟩ := Option.map_eq_some_iff.mp (r_imp w)
  obtain ⟨e1, e2⟩ := Prod.mk.inj h2
  have h3 := impGo_of h1
  rw [r_start] at h3
  refine imp_go (n := 798) (N := 1) h3 ?_
  unfold importEnds
  dsimp only at e1 e2
  rw [e2, e1]
  rfl
theorem r_fence (w : World) : (fun os => (fenceModules? pR ⟨absHeap (T0 w.params) 28 {}, #[], {}, 276, os⟩).map (fun s => (s.heap, s.gens, s.drawn, s.toks))) = fun _ => some (H0 w.params, #[], {}, 276) := by
  funext os
  rw [PySem.W.Fast.te14289696077712309145]
  kernel_rfl
theorem r_open : ∀ w : World, (fencedOpening treeTable pR w 3960).map (fun s => (s.heap, s.gens, s.drawn, s.toks)) = some (H0 w.params, #[], {}, 276) :=
  open_cut (He := fun P => absHeap (T0 P) 28 {}) r_ends (by rfl) r_fence
theorem r_size (w : World) : ((H0 w.params).isNs mainGlobals && (#[] : Array GenState).size == 0, (H0 w.params).objs.size, (H0 w.params).nsMap mainGlobals "__annotations__") = (true, 28, some (.ref 6)) := by kernel_rfl
theorem r_pre (w : World) (os : OsState) : topGo treeTable pR w 28 (some (.ref 6)) 12 (sh H0 276 w os) (topStub pR) = some (sh Ha 282 w os, ⟨denote treeTable cR, cR, p0, [topFrame p0]⟩) := by
  rw [PySem.W.Fast.te15667345088766844465, PySem.W.Fast.te11892475500146522536, PySem.W.Fast.te14364793385576792824]
  kernel_rfl
theorem r_block (w : World) (os : OsState) : segRun treeTable pR w 28 (some (.ref 6)) 1 1 (sh Ha 282 w os) (blockOf bR envR cR p0 [topFrame p0]) = some (.next, sh Ha 282 w os, cR, p0) := by
  rw [PySem.W.Fast.te14374325043358763698, PySem.W.Fast.te14364793385576792824]
  kernel_rfl
theorem r_0 (w : World) (os : OsState) : segRun treeTable pR w 28 (some (.ref 6)) 1 521 (sh Ha 282 w os) (piecesOf sts0 envR cR ⟨0, 0, 0, 0⟩ [topFrame p0]) = some (.next, sh Hc12 401 w os, cR, ⟨60, 0, 70, 12⟩) := by
  rw [PySem.W.Fast.te14374325043358763698, PySem.W.Fast.te14364793385576792824]
  kernel_rfl
theorem r_1 (w : World) (os : OsState) : segRun treeTable pR w 28 (some (.ref 6)) 1 283 (sh Hc12 401 w os) (piecesOf sts1 envR cR ⟨60, 0, 70, 12⟩ [topFrame p0]) = some (.next, sh Hc25 468 w os, cR, ⟨132, 0, 132, 10⟩) := by
  rw [PySem.W.Fast.te14374325043358763698, PySem.W.Fast.te14364793385576792824]
  kernel_rfl
theorem r_2 (w : World) (os : OsState) : segRun treeTable pR w 28 (some (.ref 6)) 1 450 (sh Hc25 468 w os) (piecesOf sts2 envR cR ⟨132, 0, 132, 10⟩ [topFrame p0]) = some (.next, sh Hc27 523 w os, cR, ⟨140, 0, 141, 8⟩) := by
  rw [PySem.W.Fast.te14374325043358763698, PySem.W.Fast.te14364793385576792824]
  kernel_rfl
theorem r_3 (w : World) (os : OsState) : segRun treeTable pR w 28 (some (.ref 6)) 1 528 (sh Hc27 523 w os) (piecesOf sts3 envR cR ⟨140, 0, 141, 8⟩ [topFrame p0]) = some (.next, sh Hc28 642 w os, cR, ⟨142, 0, 247, 16⟩) := by
  rw [PySem.W.Fast.te14374325043358763698, PySem.W.Fast.te14364793385576792824]
  kernel_rfl
theorem r_4 (w : World) (os : OsState) : segRun treeTable pR w 28 (some (.ref 6)) 1 140 (sh Hc28 642 w os) (piecesOf sts4 envR cR ⟨142, 0, 247, 16⟩ [topFrame p0]) = some (.next, sh Hc34 674 w os, cR, ⟨285, 0, 302, 72⟩) := by
  rw [PySem.W.Fast.te14374325043358763698, PySem.W.Fast.te14364793385576792824]
  kernel_rfl
theorem r_fin (w : World) (os : OsState) : topRun treeTable pR w 28 (some (.ref 6)) 2 (sh Hc34 674 w os) ⟨doneF .next, cR, ⟨285, 0, 302, 72⟩, [topFrame p0]⟩ = some (sh Hc34 674 w os) := by
  rw [PySem.W.Fast.te14082659384304107361, PySem.W.Fast.te14364793385576792824]
  kernel_rfl
theorem r_split : bR = sts0 ++ (sts1 ++ (sts2 ++ (sts3 ++ (sts4 ++ [])))) := by kernel_rfl
theorem r_run (w : World) (os : OsState) : topRun treeTable pR w 28 (some (.ref 6)) (12 + (1 + (521 + (283 + (450 + (528 + (140 + 2))))))) (sh H0 276 w os) (topStub pR) = some (sh Hc34 674 w os) :=
  go_top (r_pre w os) (piece_block (r_block w os) ((congrArg (fun l => topRun treeTable pR w 28 (some (.ref 6)) (521 + (283 + (450 + (528 + (140 + 2))))) (sh Ha 282 w os) (restOf l envR cR p0 [topFrame p0])) r_split).trans
    (piece_app (r_0 w os) (piece_app (r_1 w os) (piece_app (r_2 w os) (piece_app (r_3 w os) (piece_app (r_4 w os) (piece_nil (r_fin w os)))))))))
theorem r_l1 (w : World) (os : OsState) : (staticsOk (importedModules pR.main.body) (H0 w.params) (Hc34 w.params) && namesBound pR (Hc34 w.params) && gensDone (sh Hc34 674 w os) && laidKept (H0 w.params) (Hc34 w.params)) = true := by kernel_rfl
theorem r_l2 (w : World) (os : OsState) : openSeen vw looseL (importedModules pR.main.body) (fun s => xlAt vw [] s && recOk rw0.row.toRowW.records s) true (sh Hc34 674 w os) = openGood vw looseL := by
  rw [PySem.W.Fast.te4187177175401517315]
  kernel_rfl
theorem r_l3 (w : World) (os : OsState) : kH.obs (sh Hc34 674 w os) = kH.val w := by kernel_rfl
theorem left_ok : LeftO rw0.row.prog vw looseL (fun s => xlAt vw [] s && recOk rw0.row.toRowW.records s) kH.obs kH.val 3960 :=
  LeftO.of_pieces (H₀ := H0) (H₁ := Hc34) (gs₀ := #[]) (gs₁ := #[]) (d₀ := {}) (d₁ := {}) (k₀ := 276) (k₁ := 674) (m₀ := 28) (ann := some (.ref 6)) (M := 12 + (1 + (521 + (283 + (450 + (528 + (140 + 2))))))) r_open r_size r_run (by rfl)
    fun w => funext fun os => looks_pair (r_l1 w os) (looks_pair (r_l2 w os) (r_l3 w os))
end Hd
theorem looks_ok : looksOpen rw0.row.prog = true := by
  rw [PySem.W.Fast.te12908688711261696721]
  kernel_rfl
theorem said_p : rw0.row.partSaid = true := by
  unfold OpenRow.partSaid
  show (looksOpen rw0.row.prog && _ && _ && _ && _ && _ && _ && _ && _ && _ && _ && _ && _ && _) = true
  rw [looks_ok]
  kernel_rfl
theorem said_r : rw0.row.wellSaid = true := by
  unfold OpenRow.wellSaid
  rw [said_p]
  kernel_rfl
theorem said : rw0.wellSaid = true := by
  unfold OpenLaw.wellSaid
  rw [said_r, PySem.W.Fast.te8326940854005059898, PySem.W.Fast.te17119622794617984870, PySem.W.Fast.te8179353310426384613, PySem.W.Fast.te9558739934217749035, PySem.W.Fast.te16286561074155671207, PySem.W.Fast.te6984425678791042302]
  kernel_rfl
theorem hp_ok : ∀ d kwd, defOf vw rw0.row.name = some (d, kwd) → rw0.row.prog.theDef rw0.row.name = some (d.params, d.body, d.scope) ∧ kwWritten? d.params.kwonlyargs d.params.kw_defaults = some kwd := by
  intro d kwd e
  have e1 : (defOf vw rw0.row.name).map (fun x => (some (x.1.params, x.1.body, x.1.scope), kwWritten? x.1.params.kwonlyargs x.1.params.kw_defaults)) = (defOf vw rw0.row.name).map (fun x => (rw0.row.prog.theDef rw0.row.name, some x.2)) := by kernel_rfl
  rw [e] at e1
  have e2 := Option.some.inj e1
  exact ⟨(congrArg Prod.fst e2).symm, congrArg Prod.snd e2⟩
theorem prom : rw0.row.toRowW.promised := by w_witness2
theorem hd (h : ∀ d kwd, defOf vw rw0.row.name = some (d, kwd) → WalkO vw looseL (XL vw []) kH.says rw0.row.toRowW d kwd fun f vs => PySem.call f vs) : rw0.Holds := by
  have ex : (defOf vw rw0.row.name).isSome = true := by kernel_rfl
  obtain ⟨⟨d, kwd⟩, e⟩ := Option.isSome_iff_exists.mp ex
  exact holds_law said fun sd => holds_open (q := vw) (loose := looseL) (Xt := fun s => xlAt vw [] s && recOk rw0.row.toRowW.records s) (XP := XL vw []) (Yf := kH.obs) (Ya := kH.val) (YP := kH.says) (N := 3960) Hd.left_ok kH.of kH.keeps
    (fun s e => xl_of s (Bool.and_eq_true_iff.mp e).1) XL.keeps e (hp_ok d kwd e).1 (hp_ok d kwd e).2 (fun s e => recFacts_of (Bool.and_eq_true_iff.mp e).2) (by rfl) sd (by decide +kernel) ⟨rfl, rfl, rfl, rfl, rfl, by decide +kernel⟩ prom (h d kwd e)
end Mine
end
-- MB
section
open PySem PySem.W PyProof.Rows
set_option maxRecDepth 100000
namespace Mine

noncomputable abbrev VP := Value → Prop
noncomputable abbrev OP := Obj → Prop
noncomputable def isI (i : Int) : VP := fun v => ∃ t, v = .int i t
noncomputable def isV (x : Value) : VP := fun v => v = x
noncomputable def isB (b : Array UInt8) : VP := fun v => ∃ t, v = .bytes b t
noncomputable def isS (x : Str) : VP := fun v => ∃ t, v = .str x t

/-- values that fit predicates, place by place -/
noncomputable def Fit (ps : List VP) (vs : List Value) : Prop := ps.length = vs.length ∧ ∀ (i : Nat) (P : VP) (v : Value), ps[i]? = some P → vs[i]? = some v → P v

noncomputable abbrev lstO (vs : List Value) (n : Nat) : Obj := ⟨.type "list", none, .seq vs.toArray n, #[]⟩
noncomputable abbrev tupO (vs : List Value) (n : Nat) : Obj := ⟨.type "tuple", none, .seq vs.toArray n, #[]⟩
noncomputable def isL (ps : List VP) : OP := fun o => ∃ vs n, o = lstO vs n ∧ Fit ps vs
noncomputable def isT (ps : List VP) : OP := fun o => ∃ vs n, o = tupO vs n ∧ Fit ps vs
noncomputable abbrev isLI (ns : List Int) : OP := isL (ns.map isI)

structure St (g : Heap) (G : Array GenState) (O : OsState) (L : Addr) (m : List (Str × VP)) (objs : List (Addr × OP)) (s : Shared) : Prop where
  ns : ∃ f, s.heap.Ns L f ∧ ∀ x P, m.lookup x = some P → ∃ v, f x = some v ∧ P v
  keep : ∀ b o, g.get? b = some o → s.heap.get? b = some o
  newL : g.get? L = none
  led : ∀ p ∈ objs, (∃ o, s.heap.get? p.1 = some o ∧ p.2 o) ∧ p.1 ≠ L ∧ g.get? p.1 = none
  nd : (objs.map (·.1)).Nodup
  gens : s.gens = G
  os : s.os = O

section
variable {g : Heap} {G : Array GenState} {O : OsState} {L : Addr} {m : List (Str × VP)} {objs : List (Addr × OP)} {s s' : Shared}

theorem St.obj (I : St g G O L m objs s) {i : Nat} {a : Addr} {P : OP} (hi : objs[i]? = some (a, P)) : ∃ o, s.heap.get? a = some o ∧ P o :=
  (I.led _ (List.mem_of_getElem? hi)).1

theorem St.same (I : St g G O L m objs s) (hh : s'.heap = s.heap) (hg : s'.gens = s.gens) (ho : s'.os = s.os) : St g G O L m objs s' :=
  ⟨hh ▸ I.ns, hh ▸ I.keep, I.newL, hh ▸ I.led, I.nd, hg.trans I.gens, ho.trans I.os⟩

theorem St.tk (I : St g G O L m objs s) (n : Nat) : St g G O L m objs { s with toks := n } := I.same rfl rfl rfl

theorem lookup_up {m : List (Str × VP)} {x y : Str} {P Q : VP} : ((x, P) :: m).lookup y = some Q → (y = x ∧ Q = P) ∨ (y ≠ x ∧ m.lookup y = some Q) := by
  intro h
  rw [List.lookup_cons] at h
  by_cases e : (y == x) = true
  · rw [e] at h; exact .inl ⟨beq_iff_eq.mp e, (Option.some.inj h).symm⟩
  · have e' : (y == x) = false := by simpa using e
    rw [e'] at h
    exact .inr ⟨fun q => e (beq_iff_eq.mpr q), h⟩

theorem St.store (I : St g G O L m objs s) {x : Str} {P : VP} {v : Value} {f : Str → Option Value} {h' : Heap} (hP : P v) (hf : s.heap.Ns L f)
    (hm : ∀ x P, m.lookup x = some P → ∃ v, f x = some v ∧ P v)
    (hn : h'.Ns L (fun y => if y = x then some v else f y)) (hs : Heap.SameBut L s.heap h') (hh : s'.heap = h') (hg : s'.gens = s.gens) (ho : s'.os = s.os) :
    St g G O L ((x, P) :: m) objs s' := by
  refine ⟨⟨_, hh ▸ hn, fun y Q hy => ?_⟩, fun b o e => ?_, I.newL, fun p hp => ?_, I.nd, hg.trans I.gens, ho.trans I.os⟩
  · rcases lookup_up hy with ⟨rfl, rfl⟩ | ⟨ne, hy⟩
    · exact ⟨v, by simp, hP⟩
    · obtain ⟨v', h1, h2⟩ := hm y Q hy
      exact ⟨v', by simp [ne, h1], h2⟩
  · rw [hh]
    refine (hs.2 b ?_).trans (I.keep b o e)
    rintro rfl; rw [I.newL] at e; cases e
  · obtain ⟨⟨o, h1, h2⟩, h3, h4⟩ := I.led p hp
    exact ⟨⟨o, hh ▸ (hs.2 _ h3).trans h1, h2⟩, h3, h4⟩

theorem map_set_fst {l : List (Addr × OP)} {i : Nat} {a : Addr} {P P' : OP} (hi : l[i]? = some (a, P)) : (l.set i (a, P')).map (·.1) = l.map (·.1) := by
  rw [List.map_set]
  apply List.ext_getElem?
  intro j
  rw [List.getElem?_set]
  split
  · rename_i e; subst e
    have hl : i < l.length := (List.getElem?_eq_some_iff.mp hi).1
    simp [hl]
    exact (congrArg Prod.fst ((List.getElem?_eq_some_iff.mp hi).2)).symm
  · rfl

theorem nodup_ne {l : List (Addr × OP)} (hn : (l.map (·.1)).Nodup) {i j : Nat} {p q : Addr × OP} (hi : l[i]? = some p) (hj : l[j]? = some q) (ne : i ≠ j) : p.1 ≠ q.1 := by
  intro e
  have hi' : (l.map (·.1))[i]? = some p.1 := by rw [List.getElem?_map, hi]; rfl
  have hj' : (l.map (·.1))[j]? = some q.1 := by rw [List.getElem?_map, hj]; rfl
  obtain ⟨li, ei⟩ := List.getElem?_eq_some_iff.mp hi'
  obtain ⟨lj, ej⟩ := List.getElem?_eq_some_iff.mp hj'
  rcases Nat.lt_or_gt_of_ne ne with lt | lt
  · have := List.pairwise_iff_getElem.mp hn i j li lj lt
    rw [ei, ej] at this; exact this e
  · have := List.pairwise_iff_getElem.mp hn j i lj li lt
    rw [ei, ej] at this; exact this e.symm

theorem St.upd (I : St g G O L m objs s) {i : Nat} {a : Addr} {P P' : OP} {h' : Heap} (hi : objs[i]? = some (a, P)) (hs : Heap.SameBut a s.heap h')
    (hP : ∃ o, h'.get? a = some o ∧ P' o) (hh : s'.heap = h') (hg : s'.gens = s.gens) (ho : s'.os = s.os) : St g G O L m (objs.set i (a, P')) s' := by
  have hL := I.led _ (List.mem_of_getElem? hi)
  obtain ⟨f, hf, hm⟩ := I.ns
  refine ⟨⟨f, hh ▸ hf.sameBut hs (Ne.symm hL.2.1), hm⟩, fun b o e => ?_, I.newL, fun p hp => ?_, by rw [map_set_fst hi]; exact I.nd, hg.trans I.gens, ho.trans I.os⟩
  · rw [hh]
    refine (hs.2 b ?_).trans (I.keep b o e)
    rintro rfl; rw [hL.2.2] at e; cases e
  · obtain ⟨j, hj⟩ := List.mem_iff_getElem?.mp hp
    rw [List.getElem?_set] at hj
    split at hj
    · rename_i e; subst e
      split at hj
      · cases hj
        obtain ⟨o, h1, h2⟩ := hP
        exact ⟨⟨o, hh ▸ h1, h2⟩, hL.2⟩
      · cases hj
    · rename_i ne
      obtain ⟨⟨o, h1, h2⟩, h3, h4⟩ := I.led p (List.mem_of_getElem? hj)
      refine ⟨⟨o, ?_, h2⟩, h3, h4⟩
      rw [hh]
      exact (hs.2 _ (Ne.symm (nodup_ne I.nd hi hj ne))).trans h1

theorem St.push (I : St g G O L m objs s) {o : Obj} {P : OP} (hf : o.isFreed = false) (hP : P o) (hh : s'.heap = s.heap.push o) (hg : s'.gens = s.gens) (ho : s'.os = s.os) :
    St g G O L m (objs ++ [(s.heap.objs.size, P)]) s' := by
  obtain ⟨f, hn, hm⟩ := I.ns
  refine ⟨⟨f, hh ▸ hn.push o, hm⟩, fun b o' e => hh ▸ Heap.get?_push_of_some _ (I.keep b o' e), I.newL, fun p hp => ?_, ?_, hg.trans I.gens, ho.trans I.os⟩
  · rcases List.mem_append.mp hp with hp | hp
    · obtain ⟨⟨o', h1, h2⟩, h3⟩ := I.led p hp
      exact ⟨⟨o', hh ▸ Heap.get?_push_of_some _ h1, h2⟩, h3⟩
    · obtain rfl := List.mem_singleton.mp hp
      refine ⟨⟨o, hh ▸ Heap.get?_push_size _ hf, hP⟩, Nat.ne_of_gt hn.lt, ?_⟩
      cases q : g.get? s.heap.objs.size with
      | none => rfl
      | some o' => exact absurd (Heap.lt_size (I.keep _ _ q)) (Nat.lt_irrefl _)
  · rw [List.map_append]
    refine List.nodup_append.mpr ⟨I.nd, by simp, fun a ha b hb => ?_⟩
    obtain ⟨p, hp, rfl⟩ := List.mem_map.mp ha
    obtain rfl : b = s.heap.objs.size := by simpa using hb
    obtain ⟨⟨o', h1, _⟩, _⟩ := I.led p hp
    exact Nat.ne_of_lt (Heap.lt_size h1)

/-- fewer objects, weaker words -/
theorem St.weakO (I : St g G O L m objs s) {objs' : List (Addr × OP)} (hsub : (objs'.map (·.1)).Sublist (objs.map (·.1)))
    (h : ∀ p ∈ objs', ∃ q ∈ objs, q.1 = p.1 ∧ ∀ o, q.2 o → p.2 o) : St g G O L m objs' s :=
  ⟨I.ns, I.keep, I.newL, fun p hp => by
    obtain ⟨q, hq, e, hi⟩ := h p hp
    obtain ⟨⟨o, h1, h2⟩, h3, h4⟩ := I.led q hq
    exact ⟨⟨o, e ▸ h1, hi o h2⟩, e ▸ h3, e ▸ h4⟩, I.nd.sublist hsub, I.gens, I.os⟩
theorem St.subO (I : St g G O L m objs s) {objs' : List (Addr × OP)} (hsub : objs'.Sublist objs) : St g G O L m objs' s :=
  I.weakO (hsub.map _) fun p hp => ⟨p, hsub.subset hp, rfl, fun _ x => x⟩
theorem St.take (I : St g G O L m objs s) (n : Nat) : St g G O L m (objs.take n) s := I.subO (List.take_sublist ..)
theorem St.cut (I : St g G O L m objs s) {o1 o2 : List (Addr × OP)} (e : objs = o1 ++ o2) : St g G O L m o1 s := I.subO (e ▸ List.sublist_append_left ..)
theorem St.cast (I : St g G O L m objs s) {objs' : List (Addr × OP)} (e : objs = objs') : St g G O L m objs' s := e ▸ I

theorem St.weakL (I : St g G O L m objs s) {m' : List (Str × VP)} (h : ∀ x P, m'.lookup x = some P → ∃ P', m.lookup x = some P' ∧ ∀ v, P' v → P v) : St g G O L m' objs s := by
  obtain ⟨f, hn, hm⟩ := I.ns
  refine ⟨⟨f, hn, fun x P hx => ?_⟩, I.keep, I.newL, I.led, I.nd, I.gens, I.os⟩
  obtain ⟨P', h1, h2⟩ := h x P hx
  obtain ⟨v, h3, h4⟩ := hm x P' h1
  exact ⟨v, h3, h2 v h4⟩
/-- a list of names, each found in m with a stronger word -/
noncomputable def Covers (m : List (Str × VP)) : List (Str × VP) → Prop
  | [] => True
  | p :: r => (∃ P', m.lookup p.1 = some P' ∧ ∀ v, P' v → p.2 v) ∧ Covers m r
theorem Covers.get {m : List (Str × VP)} : ∀ {m' : List (Str × VP)}, Covers m m' → ∀ x P, m'.lookup x = some P → ∃ P', m.lookup x = some P' ∧ ∀ v, P' v → P v
  | [], _, _, _, h => by cases h
  | p :: r, ⟨h1, h2⟩, x, P, h => by
    rcases lookup_up h with ⟨rfl, rfl⟩ | ⟨_, h⟩
    · exact h1
    · exact h2.get x P h
theorem St.loc (I : St g G O L m objs s) {m' : List (Str × VP)} (h : Covers m m') : St g G O L m' objs s := I.weakL h.get

theorem hide_mem {l : List (Addr × OP)} {a : Addr} {P : OP} (h : (a, P) ∈ l) : a ∈ l.map (·.1) := List.mem_map_of_mem h

/-- the base for what is called: the heap without the ledger's objects -/
noncomputable abbrev under (s : Shared) (objs : List (Addr × OP)) : Heap := hideAll s.heap (objs.map (·.1))

theorem St.stays (I : St g G O L m objs s) : ∀ b o, g.get? b = some o → (under s objs).get? b = some o := fun b o e =>
  hideAll_get _ (I.keep b o e) fun q => by
    obtain ⟨p, hp, rfl⟩ := List.mem_map.mp q
    rw [(I.led p hp).2.2] at e; cases e

theorem St.enter (I : St g G O L m objs s) {L' : Addr} {f' : Str → Option Value} {m' : List (Str × VP)} (hn : s'.heap.Ns L' f') (hm : ∀ x P, m'.lookup x = some P → ∃ v, f' x = some v ∧ P v)
    (hk : ∀ b o, s.heap.get? b = some o → s'.heap.get? b = some o) (hL : s.heap.objs.size ≤ L') (hg : s'.gens = s.gens) (ho : s'.os = s.os) :
    St (under s objs) G O L' m' objs s' := by
  refine ⟨⟨f', hn, hm⟩, fun b o e => hk b o (of_hideAll _ e), ?_, fun p hp => ?_, I.nd, hg.trans I.gens, ho.trans I.os⟩
  · cases q : (under s objs).get? L' with
    | none => rfl
    | some o => exact absurd (Heap.lt_size (of_hideAll _ q)) (Nat.not_lt.mpr hL)
  · obtain ⟨⟨o, h1, h2⟩, h3, h4⟩ := I.led p hp
    exact ⟨⟨o, hk _ _ h1, h2⟩, Nat.ne_of_lt (Nat.lt_of_lt_of_le (Heap.lt_size h1) hL), hideAll_none _ (List.mem_map_of_mem hp)⟩

theorem St.leave (I : St g G O L m objs s) {L' : Addr} {m' : List (Str × VP)} {objs' : List (Addr × OP)} (I' : St (under s objs) G O L' m' objs' s') : St g G O L m objs' s' := by
  obtain ⟨f, ⟨oL, es, ep, hL, r⟩, hm⟩ := I.ns
  have nL : L ∉ objs.map (·.1) := fun q => by
    obtain ⟨p, hp, e⟩ := List.mem_map.mp q
    exact (I.led p hp).2.1 e
  have hLg := hideAll_get (objs.map (·.1)) hL nL
  refine ⟨⟨f, ⟨oL, es, ep, I'.keep _ _ hLg, r⟩, hm⟩, fun b o e => I'.keep b o (I.stays b o e), I.newL, fun p hp => ?_, I'.nd, I'.gens, I'.os⟩
  obtain ⟨h1, h2, h3⟩ := I'.led p hp
  refine ⟨h1, fun q => ?_, ?_⟩
  · rw [q, hLg] at h3; cases h3
  · cases q : g.get? p.1 with
    | none => rfl
    | some o => rw [I.stays _ _ q] at h3; cases h3

/-- a part of the ledger goes into the base -/
theorem St.out {fr : List (Addr × OP)} (I : St g G O L m (objs ++ fr) s) : ∃ g', St g' G O L m objs s ∧ (∀ b o, g.get? b = some o → g'.get? b = some o) ∧
    ∀ m' objs' s', St g' G O L m' objs' s' → St g G O L m' (objs' ++ fr) s' := by
  have hnd := I.nd
  rw [List.map_append] at hnd
  obtain ⟨n1, n2, n3⟩ := List.nodup_append.mp hnd
  have hLo : ∀ b o, g.get? b = some o → b ∉ L :: objs.map (·.1) := fun b o e q => by
    rcases List.mem_cons.mp q with rfl | q
    · rw [I.newL] at e; cases e
    · obtain ⟨p, hp, rfl⟩ := List.mem_map.mp q
      rw [(I.led p (List.mem_append_left _ hp)).2.2] at e; cases e
  have hgg : ∀ b o, g.get? b = some o → (hideAll s.heap (L :: objs.map (·.1))).get? b = some o := fun b o e => hideAll_get _ (I.keep b o e) (hLo b o e)
  have hfr : ∀ p ∈ fr, ∃ o, (hideAll s.heap (L :: objs.map (·.1))).get? p.1 = some o ∧ p.2 o := fun p hp => by
    obtain ⟨⟨o, h1, h2⟩, h3, _⟩ := I.led p (List.mem_append_right _ hp)
    refine ⟨o, hideAll_get _ h1 fun q => ?_, h2⟩
    rcases List.mem_cons.mp q with q | q
    · exact h3 q
    · exact n3 _ q _ (List.mem_map_of_mem hp) rfl
  refine ⟨hideAll s.heap (L :: objs.map (·.1)), ⟨I.ns, fun b o e => of_hideAll _ e, hideAll_none _ (.head _), fun p hp => ?_, n1, I.gens, I.os⟩, hgg, fun m' objs' s' I' => ?_⟩
  · obtain ⟨h1, h3, _⟩ := I.led p (List.mem_append_left _ hp)
    exact ⟨h1, h3, hideAll_none _ (.tail _ (List.mem_map_of_mem hp))⟩
  · refine ⟨I'.ns, fun b o e => I'.keep b o (hgg b o e), I.newL, fun p hp => ?_, ?_, I'.gens, I'.os⟩
    · rcases List.mem_append.mp hp with hp | hp
      · obtain ⟨h1, h2, h3⟩ := I'.led p hp
        refine ⟨h1, h2, ?_⟩
        cases q : g.get? p.1 with
        | none => rfl
        | some o => rw [hgg _ _ q] at h3; cases h3
      · obtain ⟨o, h1, h2⟩ := hfr p hp
        exact ⟨⟨o, I'.keep _ _ h1, h2⟩, (I.led p (List.mem_append_right _ hp)).2⟩
    · rw [List.map_append]
      refine List.nodup_append.mpr ⟨I'.nd, n2, fun a ha b hb e => ?_⟩
      subst e
      obtain ⟨p, hp, e1⟩ := List.mem_map.mp ha
      obtain ⟨q, hq, e2⟩ := List.mem_map.mp hb
      obtain ⟨o, h1, _⟩ := hfr q hq
      have := (I'.led p hp).2.2
      rw [e1, ← e2, h1] at this; cases this

/-- an object outside the ledger may turn -/
theorem St.ign (I : St g G O L m objs s) {C : Addr} {h' : Heap} (hs : ∀ b o, b ≠ C → s.heap.get? b = some o → h'.get? b = some o) (hC : C ∉ objs.map (·.1)) (hL : C ≠ L) (hg : g.get? C = none) (hh : s'.heap = h') (hgn : s'.gens = s.gens) (ho : s'.os = s.os) :
    St g G O L m objs s' := by
  obtain ⟨f, ⟨oL, es, ep, hL', r⟩, hm⟩ := I.ns
  refine ⟨⟨f, ⟨oL, es, ep, hh ▸ hs L _ (Ne.symm hL) hL', r⟩, hm⟩, fun b o e => ?_, I.newL, fun p hp => ?_, I.nd, hgn.trans I.gens, ho.trans I.os⟩
  · rw [hh]
    refine hs b o ?_ (I.keep b o e)
    rintro rfl; rw [hg] at e; cases e
  · obtain ⟨⟨o, h1, h2⟩, h3, h4⟩ := I.led p hp
    refine ⟨⟨o, ?_, h2⟩, h3, h4⟩
    rw [hh]
    exact hs _ _ (by rintro rfl; exact hC (List.mem_map_of_mem hp)) h1
theorem St.perm (I : St g G O L m objs s) {objs' : List (Addr × OP)} (h : objs'.Perm objs) : St g G O L m objs' s :=
  ⟨I.ns, I.keep, I.newL, fun p hp => I.led p (h.mem_iff.mp hp), (h.map _).nodup_iff.mpr I.nd, I.gens, I.os⟩
end

end Mine
end
-- MR
section
open PySem PySem.W PyProof.Rows
set_option maxRecDepth 100000
namespace Mine

noncomputable abbrev KF (w : World) : Frag := frag w.params

structure W (w : World) (g : Heap) : Prop where
  k : (KF w).In g
  lim : g.NoLimit
  gl : ∃ mg, g.Ns mainGlobals mg
  bl : ∃ mb, g.Ns builtinsNs mb ∧ ∀ x : Str, x ≠ "__name__" → mb x = bootBuiltins x
  sm : ∃ o, g.get? sysModules = some o

theorem W.keeps {w : World} {g g' : Heap} (h : W w g) (hk : ∀ b o, g.get? b = some o → g'.get? b = some o) : W w g' :=
  ⟨fun a o e => hk _ _ (h.k a o e), h.lim.keeps hk, let ⟨mg, x⟩ := h.gl; ⟨mg, x.keeps hk⟩, let ⟨mb, x, y⟩ := h.bl; ⟨mb, x.keeps hk, y⟩, let ⟨o, e⟩ := h.sm; ⟨o, hk _ _ e⟩⟩

structure EnvIs (env : Env) (L : Addr) (names : List (Str × NameKind)) (cs : List (Str × Addr)) : Prop where
  kind : env.scope.kind = .function
  names : env.scope.names = names
  locals : env.locals = L
  globals : env.globals = mainGlobals
  builtins : env.builtins = builtinsNs
  cells : env.cells = cs

noncomputable def flowVal : Flow → Value
  | .ret v => v
  | _ => .none

section
variable {prog : Program} {w : World} {A : Around} {E : Value → Shared → Prop} {s : Shared}
variable {g : Heap} {G : Array GenState} {O : OsState} {L : Addr} {m : List (Str × VP)} {objs : List (Addr × OP)} {env : Env} {names : List (Str × NameKind)} {cs : List (Str × Addr)}

theorem ld {M : Model} {x : Str} {pos : Pos} {P : VP} {Q : Value → Shared → Prop} (HE : EnvIs env L names cs) (I : St g G O L m objs s) (hm : m.lookup x = some P) (h : ∀ v, P v → Q v s)
    (hl : names.lookup x = some .local := by rfl) (hd : (x == ("__debug__" : Str)) = false := by rfl) : wpAny M A (eval (.Name x pos) env) Q E s := by
  obtain ⟨f, hn, hf⟩ := I.ns
  obtain ⟨v, h1, h2⟩ := hf x P hm
  exact wpAny_Name (wpAny_loadName_local HE.kind (by unfold Env.kindOf; rw [HE.names]; exact hl) (HE.locals ▸ hn) h1 (h v h2)) hd

theorem ldG {x : Str} {pos : Pos} {v : Value} {Q : Value → Shared → Prop} (HE : EnvIs env L names cs) (I : St g G O L m objs s) (hW : W w g) (hg : nsIn (KF w) mainGlobals x = some (some v)) (h : Q v s)
    (hl : names.lookup x = some .globalImplicit := by rfl) (hd : (x == ("__debug__" : Str)) = false := by rfl) : wpAny (model prog w) A (eval (.Name x pos) env) Q E s := by
  obtain ⟨mg, hmg⟩ := hW.gl
  exact Calls.Name_function_global HE.kind (by unfold Env.kindOf; rw [HE.names]; exact hl) (Calls.loadGlobal_global (HE.globals ▸ hmg.keeps I.keep) (mg_of hW.k hmg hg) h) hd

theorem ldB {x : Str} {pos : Pos} {v : Value} {Q : Value → Shared → Prop} (HE : EnvIs env L names cs) (I : St g G O L m objs s) (hW : W w g) (hg : nsIn (KF w) mainGlobals x = some none)
    (hb : bootBuiltins x = some v) (h : Q v s)
    (hl : names.lookup x = some .globalImplicit := by rfl) (hn : x ≠ "__name__" := by decide) (hd : (x == ("__debug__" : Str)) = false := by rfl) : wpAny (model prog w) A (eval (.Name x pos) env) Q E s := by
  obtain ⟨mg, hmg⟩ := hW.gl
  obtain ⟨mb, hmb, hbb⟩ := hW.bl
  exact Calls.Name_function_global HE.kind (by unfold Env.kindOf; rw [HE.names]; exact hl)
    (Calls.loadGlobal_builtin (HE.globals ▸ hmg.keeps I.keep) (mg_none_of hW.k hmg hg) (HE.builtins ▸ hmb.keeps I.keep) ((hbb x hn).trans hb) h) hd

theorem sto {M : Model} {x : Str} {P : VP} {v : Value} {Q : Unit → Shared → Prop} (HE : EnvIs env L names cs) (I : St g G O L m objs s) (hP : P v) (h : ∀ s', St g G O L ((x, P) :: m) objs s' → Q () s')
    (hl : names.lookup x = some .local := by rfl) : wpAny M A (storeName env x v) Q E s := by
  obtain ⟨f, hn, hf⟩ := I.ns
  refine wpAny_storeName_local (by unfold Env.kindOf; rw [HE.names]; exact hl) (HE.locals ▸ hn) (fun h' hn' hs => h _ ?_) (by rw [HE.kind]; rfl)
  exact I.store hP hn hf (HE.locals ▸ hn') (HE.locals ▸ hs) rfl rfl rfl

theorem asg {M : Model} {x : Str} {pos pos' : Pos} {value : Expr} {Q : Flow → Shared → Prop} (HE : EnvIs env L names cs)
    (h : wpAny M A (eval value env) (fun v s₁ => ∃ m₁ objs₁ P, St g G O L m₁ objs₁ s₁ ∧ P v ∧ ∀ s₂, St g G O L ((x, P) :: m₁) objs₁ s₂ → Q .next s₂) E s)
    (hl : names.lookup x = some .local := by rfl) (hs : swapsWith value (some (.Name x pos')) pos.line env = pure false := by rfl) : wpAny M A (exec (.Assign [.Name x pos'] value pos) env) Q E s :=
  wpAny_Assign_Name (wpAny_mono h (fun v s₁ ⟨m₁, objs₁, P, I, hP, k⟩ => sto HE I hP (fun s₂ I₂ => k s₂ I₂) hl) fun _ _ x => x) hs

theorem Fit.get {ps : List VP} {vs : List Value} (h : Fit ps vs) {i : Nat} {P : VP} (hi : ps[i]? = some P) : ∃ v, vs[i]? = some v ∧ P v := by
  have hl : i < vs.length := h.1 ▸ (List.getElem?_eq_some_iff.mp hi).1
  exact ⟨vs[i], List.getElem?_eq_getElem hl, h.2 i P _ hi (List.getElem?_eq_getElem hl)⟩
theorem Fit.set {ps : List VP} {vs : List Value} (h : Fit ps vs) {i : Nat} {P : VP} {v : Value} (hP : P v) : Fit (ps.set i P) (vs.set i v) := by
  refine ⟨by simp [h.1], fun j Q u hj hu => ?_⟩
  rw [List.getElem?_set] at hj hu
  by_cases e : i = j
  · subst e
    rw [if_pos rfl] at hj hu
    split at hj
    · cases hj
      split at hu
      · cases hu; exact hP
      · cases hu
    · cases hj
  · rw [if_neg e] at hj hu
    exact h.2 j Q u hj hu
theorem Fit.append {ps qs : List VP} {vs us : List Value} (h : Fit ps vs) (k : Fit qs us) : Fit (ps ++ qs) (vs ++ us) := by
  refine ⟨by simp [h.1, k.1], fun j Q u hj hu => ?_⟩
  rw [List.getElem?_append] at hj hu
  rw [← h.1] at hu
  split at hj
  · rename_i l; rw [if_pos l] at hu; exact h.2 j Q u hj hu
  · rename_i l; rw [if_neg l] at hu; exact k.2 _ Q u hj hu
theorem Fit.nil : Fit [] [] := ⟨rfl, fun _ _ _ h => by cases h⟩
theorem Fit.cons {P : VP} {v : Value} {ps : List VP} {vs : List Value} (hP : P v) (h : Fit ps vs) : Fit (P :: ps) (v :: vs) := by
  refine ⟨by simp [h.1], fun j Q u hj hu => ?_⟩
  cases j with
  | zero => cases hj; cases hu; exact hP
  | succ j => exact h.2 j Q u hj hu
theorem Fit.one {P : VP} {v : Value} (hP : P v) : Fit [P] [v] := .cons hP .nil

/-- an object of the ledger that is a list -/
theorem St.list (I : St g G O L m objs s) {i : Nat} {l : Addr} {ps : List VP} (hi : objs[i]? = some (l, isL ps)) : ∃ vs n, s.heap.get? l = some (lstO vs n) ∧ Fit ps vs := by
  obtain ⟨o, h1, vs, n, rfl, h2⟩ := I.obj hi
  exact ⟨vs, n, h1, h2⟩
theorem isList_of {h : Heap} {l : Addr} {vs : List Value} {n : Nat} (e : h.get? l = some (lstO vs n)) : h.IsList l vs.toArray := ⟨_, e, rfl, n, rfl⟩

theorem item {i : Nat} {l : Addr} {ps : List VP} {k : Int} {t : Tok} {P : VP} {Q : Value → Shared → Prop} (I : St g G O L m objs s) (hi : objs[i]? = some (l, isL ps)) (h0 : 0 ≤ k) (hk : ps[k.toNat]? = some P)
    (h : ∀ v, P v → Q v s) (hz : k < 2 ^ 63 := by omega) : wpAny (model prog w) A (getItem (.ref l) (.int k t)) Q E s := by
  obtain ⟨vs, n, h1, h2⟩ := I.list hi
  obtain ⟨v, h3, h4⟩ := h2.get hk
  exact wpAny_getItem_list (isList_of h1) h0 hz (by simpa using h3) (h v h4)

theorem subscr {value slice : Expr} {i : Nat} {l : Addr} {ps : List VP} {k : Int} {t : Tok} {P : VP} {Q : Value → Shared → Prop} (I : St g G O L m objs s) (hi : objs[i]? = some (l, isL ps)) (h0 : 0 ≤ k) (hk : ps[k.toNat]? = some P)
    (h : ∀ v, P v → Q v s) (hz : k < 2 ^ 63 := by omega) (hs : subscripted slice false (.ref l) (.int k t) = operate [.ref l, .int k t] (getItem (.ref l) (.int k t)) := by rfl) :
    wpAny (model prog w) A (subscriptTail value slice (.ref l) (.int k t)) Q E s := by
  obtain ⟨vs, n, h1, h2⟩ := I.list hi
  exact tail_any (isList_of h1).typeIs slot_list_getitem.lookup (item I hi h0 hk h hz) hs

/-- call of a def of the text -/
theorem call_fn {f : Addr} {fd : FuncData} {o : Obj} {body : List Stmt} {args : List Value} {bs : List (Str × Value)} {Q : Value → Shared → Prop}
    (I : St g G O L m objs s) (hW : W w g) (hroom : A.depth < recursionLimit)
    (ho : (KF w).lookup f = some o) (hdata : o.data = .func fd) (hbody : fd.body = .stmts body) (hcd : codeIn (KF w) fd.code fd.qualname = true)
    (hbind : BindsTo s fd ⟨args, []⟩ bs) (hcell : (fd.scope.names.all fun x => x.2 != .cell) = true) (hloc : (bs.all fun x => fd.scope.names.lookup x.1 == some .local) = true)
    (h : ∀ g' L' s' env, EnvIs env L' fd.scope.names fd.closure → W w g' → St g' G O L' (bs.reverse.map fun b => (b.1, isV b.2)) objs s' → ∀ E',
      wpAny (model prog w) (A.deeper env) (execs body env) (fun fl s₂ => ∃ m₂ objs₂, St g' G O L' m₂ objs₂ s₂ ∧ (St g G O L m objs₂ s₂ → Q (flowVal fl) s₂)) E' s')
    (hco : fd.scope.isCoroutine = false := by rfl) (hgen : fd.scope.isGenerator = false := by rfl) (hk : fd.scope.kind = .function := by rfl)
    (hgl : fd.globals = mainGlobals := by rfl) (hbl : fd.builtins = builtinsNs := by rfl) :
    wpAny (model prog w) A (call (.ref f) args) Q E s := by
  have hWs : W w s.heap := hW.keeps I.keep
  refine wpAny_call (codeAny_call_def hroom (hWs.k _ _ ho) hdata hWs.lim (codeRec_of hWs.k hcd) hbody hbind (fun x hx => by simpa using List.all_eq_true.mp hcell x hx) (fun x hx => by simpa using List.all_eq_true.mp hloc x hx) (fun h₀ hns hk₀ => ?_) hco hgen hk)
  have hsz : s.heap.objs.size ≤ h₀.objs.size := Nat.le_of_lt hns.lt
  have I' : St (under s objs) G O s.heap.objs.size (bs.reverse.map fun b => (b.1, isV b.2)) objs { s with heap := h₀, toks := s.toks + bs.length } := by
    refine I.enter hns (fun x P hx => ?_) hk₀ (Nat.le_refl _) rfl rfl
    have : ∀ (l : List (Str × Value)) x P, (l.map fun b => (b.1, isV b.2)).lookup x = some P → ∃ v, l.lookup x = some v ∧ P v := by
      intro l
      induction l with
      | nil => intro x P h; cases h
      | cons b r ih =>
        intro x P h
        rw [List.map_cons] at h
        rcases lookup_up h with ⟨rfl, rfl⟩ | ⟨ne, h⟩
        · exact ⟨b.2, by rw [List.lookup_cons, beq_self_eq_true], rfl⟩
        · obtain ⟨v, h1, h2⟩ := ih x P h
          exact ⟨v, by rw [List.lookup_cons, show (x == b.1) = false from by simpa using ne]; exact h1, h2⟩
    exact this _ x P hx
  refine wpAny_mono (h _ _ _ _ ⟨hk, rfl, rfl, hgl, hbl, rfl⟩ (hW.keeps I.stays) I' _) (fun fl s₂ ⟨m₂, objs₂, h1, h2⟩ => ?_) fun _ _ x => x
  have := h2 (I.leave h1)
  cases fl <;> exact this
end

end Mine
end
-- MR2
section
open PySem PySem.W PyProof.Rows
set_option maxRecDepth 100000
namespace Mine

section
variable {prog : Program} {w : World} {A : Around} {E : Value → Shared → Prop} {s : Shared}
variable {g : Heap} {G : Array GenState} {O : OsState} {L : Addr} {m : List (Str × VP)} {objs : List (Addr × OP)} {env : Env} {names : List (Str × NameKind)} {cs : List (Str × Addr)}

theorem mapSeq_lst (vs : List Value) (n : Nat) (f : Array Value → Array Value) : ∃ n', Obj.mapSeq f (lstO vs n) = lstO (f vs.toArray).toList n' := by
  refine ⟨if (f vs.toArray).size == vs.toArray.size then n else n + 1, ?_⟩
  simp [Obj.mapSeq]

theorem St.updList (I : St g G O L m objs s) {i : Nat} {l : Addr} {P : OP} {ps : List VP} {vs : List Value} {n : Nat} {f : Array Value → Array Value} {s' : Shared} (hi : objs[i]? = some (l, P)) (hl : s.heap.get? l = some (lstO vs n))
    (hf : Fit ps (f vs.toArray).toList) (hh : s'.heap = s.heap.update l (Obj.mapSeq f)) (hg : s'.gens = s.gens) (ho : s'.os = s.os) : St g G O L m (objs.set i (l, isL ps)) s' := by
  obtain ⟨n', e⟩ := mapSeq_lst vs n f
  exact I.upd hi (Heap.SameBut.update ..) ⟨_, (Heap.get?_update_self _ hl (by rw [e]; rfl)).trans (by rw [e]), _, n', rfl, hf⟩ hh hg ho

theorem setI {i : Nat} {l : Addr} {ps : List VP} {k : Int} {t : Tok} {v : Value} {P : VP} {Q : Unit → Shared → Prop} (I : St g G O L m objs s) (hi : objs[i]? = some (l, isL ps)) (h0 : 0 ≤ k) (hk : k < ps.length) (hP : P v)
    (h : ∀ s', St g G O L m (objs.set i (l, isL (ps.set k.toNat P))) s' → Q () s') (hz : k < 2 ^ 63 := by omega) : wpAny (model prog w) A (setItem (.ref l) (.int k t) v) Q E s := by
  obtain ⟨vs, n, hl, hf⟩ := I.list hi
  have hL := isList_of hl
  unfold setItem
  try with_reducible refine wpAny_holding ?_
  first | refine wpAny_bind (wpAny_pure ?_) | skip
  refine wpAny_bind (wpAny_sequenceKey hL.typeIs (by decide) ?_)
  refine wpAny_bind (wpAny_callSpecial?_slot (name := Str.ofString "__setitem__") hL.typeIs slot_list_setitem
    (wpAny_call_entry slot_list_setitem hL.typeIs entry_list_setitem ?_ (args_list_setitem _ _ _)))
  show wpAny _ _ (Builtin.List.listSubscript? (.int k t) >>= _) _ _ s
  refine wpAny_bind (wpAny_listSubscript_int (fitsIndex_of h0 hz) ?_)
  clear hz
  obtain ⟨j, rfl⟩ := Int.eq_ofNat_of_zero_le h0
  have hj : j < vs.length := by rw [← hf.1]; omega
  show wpAny _ _ ((seqItemAt l j >>= fun r => pure (r.map (j, ·))) >>= _) _ _ s
  refine wpAny_bind (wpAny_bind (wpAny_seqItemAt hl rfl (wpAny_pure ?_)))
  rw [show vs.toArray[j]? = some vs[j] by simp [hj]]
  show wpAny _ _ (setSeqItemAt l j v >>= _) _ _ s
  have hfin : Q () { s with heap := s.heap.update l (Obj.mapSeq (·.setIfInBounds j v)) } := h _ (I.updList hi hl (by
    have e : (vs.toArray.setIfInBounds j v).toList = vs.set j v := by simp
    rw [e]; exact hf.set hP) rfl rfl rfl)
  refine wpAny_bind (wpAny_setSeqItemAt hl rfl ?_)
  first
    | exact wpAny_bind (wpAny_pure (wpAny_pure ⟨.none, rfl, wpAny_pure hfin⟩))
    | exact wpAny_pure ⟨.none, rfl, wpAny_pure hfin⟩

theorem cI {M : Model} {i : Int} {k : Nat} {pos : Pos} {Q : Value → Shared → Prop} (I : St g G O L m objs s) (h : ∀ t s', St g G O L m objs s' → Q (.int i t) s') : wpAny M A (eval (.Constant (.int i) k pos) env) Q E s :=
  wpAny_Constant_int (h _ _ (I.tk _))
theorem oAdd {a b : Int} {t u : Tok} {Q : Value → Shared → Prop} (I : St g G O L m objs s) (h : ∀ t s', St g G O L m objs s' → Q (.int (a + b) t) s') : wpAny (model prog w) A (binaryOp .Add (.int a t) (.int b u)) Q E s :=
  add_int (h _ _ (I.tk _))
theorem oSub {a b : Int} {t u : Tok} {Q : Value → Shared → Prop} (I : St g G O L m objs s) (h : ∀ t s', St g G O L m objs s' → Q (.int (a - b) t) s') : wpAny (model prog w) A (binaryOp .Sub (.int a t) (.int b u)) Q E s :=
  sub_int (h _ _ (I.tk _))
theorem oMul {a b : Int} {t u : Tok} {Q : Value → Shared → Prop} (I : St g G O L m objs s) (h : ∀ t s', St g G O L m objs s' → Q (.int (a * b) t) s') (hm : IntMulOk a b := by mul_fits) : wpAny (model prog w) A (binaryOp .Mult (.int a t) (.int b u)) Q E s :=
  mul_int (h _ _ (I.tk _)) hm
theorem oShr {a : Int} {t u : Tok} {Q : Value → Shared → Prop} (I : St g G O L m objs s) (h0 : 0 ≤ a) (h : ∀ t s', St g G O L m objs s' → Q (.int (a / 2) t) s') : wpAny (model prog w) A (binaryOp .RShift (.int a t) (.int 1 u)) Q E s :=
  wpAny_rshift1_int h0 (h _ _ (I.tk _))
theorem oMod {a b : Int} {t u : Tok} {Q : Value → Shared → Prop} (I : St g G O L m objs s) (hb : b ≠ 0) (h : ∀ t s', St g G O L m objs s' → Q (.int (a.fmod b) t) s') : wpAny (model prog w) A (binaryOp .Mod (.int a t) (.int b u)) Q E s :=
  mod_int hb (h _ _ (I.tk _))

/-- a test that compares two ints -/
theorem tLt {a b : Int} {t u : Tok} {Q : Bool → Shared → Prop} (h1 : a < b → Q true s) (h2 : ¬ a < b → Q false s) :
    wpAny (model prog w) A (compareOp .Lt (.int a t) (.int b u)) (fun c s₃ => wpAny (model prog w) A (truthy c) Q E s₃) E s := by
  refine lt_int (wpAny_truthy_bool ?_)
  by_cases hc : a < b
  · rw [decide_eq_true hc]; exact h1 hc
  · rw [decide_eq_false hc]; exact h2 hc
theorem tGt {a b : Int} {t u : Tok} {Q : Bool → Shared → Prop} (h1 : b < a → Q true s) (h2 : ¬ b < a → Q false s) :
    wpAny (model prog w) A (compareOp .Gt (.int a t) (.int b u)) (fun c s₃ => wpAny (model prog w) A (truthy c) Q E s₃) E s := by
  refine gt_int (wpAny_truthy_bool ?_)
  by_cases hc : b < a
  · rw [decide_eq_true hc]; exact h1 hc
  · rw [decide_eq_false hc]; exact h2 hc
theorem tEq {a b : Int} {t u : Tok} {Q : Bool → Shared → Prop} (h1 : a = b → Q true s) (h2 : a ≠ b → Q false s) :
    wpAny (model prog w) A (compareOp .Eq (.int a t) (.int b u)) (fun c s₃ => wpAny (model prog w) A (truthy c) Q E s₃) E s := by
  refine eq_int (wpAny_truthy_bool ?_)
  by_cases hc : a = b
  · rw [beq_iff_eq.mpr hc]; exact h1 hc
  · rw [beq_eq_false_iff_ne.mpr hc]; exact h2 hc
theorem tNe {a b : Int} {t u : Tok} {Q : Bool → Shared → Prop} (h1 : a ≠ b → Q true s) (h2 : a = b → Q false s) :
    wpAny (model prog w) A (compareOp .NotEq (.int a t) (.int b u)) (fun c s₃ => wpAny (model prog w) A (truthy c) Q E s₃) E s := by
  refine ne_int (wpAny_truthy_bool ?_)
  by_cases hc : a = b
  · rw [hc, bne_self_eq_false]; exact h2 hc
  · rw [bne_iff_ne.mpr hc]; exact h1 hc
end
end Mine
end
-- MR3
section
open PySem PySem.W PyProof.Rows
set_option maxRecDepth 100000
namespace Mine

section
variable {prog : Program} {w : World} {A : Around} {E : Value → Shared → Prop} {s : Shared}
variable {g : Heap} {G : Array GenState} {O : OsState} {L : Addr} {m : List (Str × VP)} {objs : List (Addr × OP)} {env : Env} {names : List (Str × NameKind)} {cs : List (Str × Addr)}

theorem St.inK (I : St g G O L m objs s) (hW : W w g) : (KF w).In s.heap := (hW.keeps I.keep).k
theorem fnIn_get {K : Frag} {f : Addr} (h : fnIn K f = true) : ∃ o fd, K.lookup f = some o ∧ o.data = .func fd := by
  unfold fnIn at h
  split at h
  · rename_i e; exact ⟨_, _, e, rfl⟩
  · cases h

theorem callN {pos : Pos} {f : Addr} {e : Expr} {rest : List Expr} {Q : Value → Shared → Prop} (hf : fnIn (KF w) f = true)
    (h : wpAny (model prog w) A (spliced (backTo pos (starEach (e :: rest) env))) (fun vs s₁ => (KF w).In s₁.heap ∧ wpAny (model prog w) A (call (.ref f) vs) Q E s₁) E s)
    (he : starEach (e :: rest) env = (false, eval e env) :: starEach rest env := by rfl) :
    wpAny (model prog w) A (callWith pos (.ref f) [] (backTo pos (starEach (e :: rest) env)) []) Q E s := by
  obtain ⟨o, fd, h1, h2⟩ := fnIn_get hf
  exact callWith_def h2 (wpAny_mono h (fun vs s₁ ⟨a, b⟩ => ⟨a _ _ h1, b⟩) fun _ _ x => x) he

theorem lenL {i : Nat} {l : Addr} {ps : List VP} {Q : Value → Shared → Prop} (I : St g G O L m objs s) (hi : objs[i]? = some (l, isL ps)) (h : ∀ t s', St g G O L m objs s' → Q (.int ps.length t) s') (hz : ps.length < 2 ^ 63 := by omega) :
    wpAny (model prog w) A (call (.builtin "len") [.ref l]) Q E s := by
  obtain ⟨vs, n, hl, hf⟩ := I.list hi
  refine Calls.call_len_list (isList_of hl) (by rw [List.size_toArray, ← hf.1]; omega) ?_
  rw [List.size_toArray, ← hf.1]
  exact h _ _ (I.tk _)

theorem truthyL {i : Nat} {l : Addr} {ps : List VP} {Q : Bool → Shared → Prop} (I : St g G O L m objs s) (hi : objs[i]? = some (l, isL ps)) (h : ∀ s', St g G O L m objs s' → Q (!ps.isEmpty) s') (hz : ps.length < 2 ^ 63 := by omega) :
    wpAny (model prog w) A (truthy (.ref l)) Q E s := by
  obtain ⟨vs, n, hl, hf⟩ := I.list hi
  refine wpAny_truthy_list (isList_of hl) (by rw [List.size_toArray, ← hf.1]; omega) ?_
  have : (!vs.toArray.isEmpty) = !ps.isEmpty := by
    have := hf.1
    cases ps <;> cases vs <;> simp_all
  rw [this]
  exact h _ (I.tk _)

/-- a method of a list, called -/
theorem methL {M : Model} {i : Nat} {l : Addr} {ps : List VP} {name : Str} {id : String} {pos : Pos} {trees : List (Bool × Sem Value)} {Q : Value → Shared → Prop} (I : St g G O L m objs s) (hi : objs[i]? = some (l, isL ps))
    (slot : Slot "list" name id) (hty : typeOf (.builtin id) = pure (.type "method_descriptor"))
    (h : wpAny (model prog w) A (callWith pos (.builtin id) [.ref l] trees []) Q E s) : MethodOn prog w A name pos (.ref l) trees Q E s := by
  obtain ⟨vs, n, hl, hf⟩ := I.list hi
  exact ⟨"list", id, F.plainAttrs_list, slot, hty, (isList_of hl).typeIs, fun a e => by cases e; exact ⟨_, hl, rfl⟩, h⟩

theorem appL {i : Nat} {l : Addr} {ps : List VP} {v : Value} {P : VP} {Q : Value → Shared → Prop} (I : St g G O L m objs s) (hi : objs[i]? = some (l, isL ps)) (hP : P v)
    (h : ∀ s', St g G O L m (objs.set i (l, isL (ps ++ [P]))) s' → Q .none s') (hz : ps.length ≤ 1000 := by first | omega | (simp only [List.length_map]; omega)) : wpAny (model prog w) A (call (.builtin "list.append") [.ref l, v]) Q E s := by
  obtain ⟨vs, n, hl, hf⟩ := I.list hi
  refine wpAny_list_append_plain ⟨n, hl⟩ (fun h' ⟨n', hl'⟩ hs => h _ ?_) (by rw [List.size_toArray, ← hf.1, sizeLine_eq]; omega)
  refine I.upd hi hs ⟨_, hl', _, n', ?_, hf.append (.one hP)⟩ rfl rfl rfl
  simp

theorem newL {ps : List VP} {vs : List Value} {Q : Value → Shared → Prop} (I : St g G O L m objs s) (hf : Fit ps vs) (h : ∀ a s', St g G O L m (objs ++ [(a, isL ps)]) s' → Q (.ref a) s')
    (hz : ps.length ≤ 1000 := by first | omega | (simp only [List.length_map]; omega) | (simp; done) | (simp; omega)) : wpAny (model prog w) A (newList vs) Q E s := by
  refine wpAny_newObj_type (h _ _ (I.push (o := lstO vs 0) rfl ⟨vs, 0, rfl, hf⟩ rfl rfl rfl)) ?_
  show vs.toArray.size ≤ sizeLine
  rw [List.size_toArray, ← hf.1, sizeLine_eq]; omega
theorem newT {ps : List VP} {vs : List Value} {Q : Value → Shared → Prop} (I : St g G O L m objs s) (hf : Fit ps vs) (h : ∀ a s', St g G O L m (objs ++ [(a, isT ps)]) s' → Q (.ref a) s')
    (hz : ps.length ≤ 1000 := by first | omega | (simp only [List.length_map]; omega) | (simp; done) | (simp; omega)) : wpAny (model prog w) A (newTuple vs) Q E s := by
  refine wpAny_newObj_type (h _ _ (I.push (o := tupO vs 0) rfl ⟨vs, 0, rfl, hf⟩ rfl rfl rfl)) ?_
  show vs.toArray.size ≤ sizeLine
  rw [List.size_toArray, ← hf.1, sizeLine_eq]; omega
end

section
variable {prog : Program} {w : World} {A : Around} {E : Value → Shared → Prop} {s : Shared}
variable {g : Heap} {G : Array GenState} {O : OsState} {L : Addr} {m : List (Str × VP)} {objs : List (Addr × OP)} {env : Env} {names : List (Str × NameKind)} {cs : List (Str × Addr)}
theorem ty_list_append : typeOf (.builtin "list.append") = pure (.type "method_descriptor") := by with_unfolding_all rfl
theorem ty_list_pop : typeOf (.builtin "list.pop") = pure (.type "method_descriptor") := by with_unfolding_all rfl
theorem exprS {e : Expr} {pos : Pos} {Q : Flow → Shared → Prop} (HE : EnvIs env L names cs) (h : wpAny (model prog w) A (eval e env) (fun _ => Q .next) E s) (hs : swapsWith e none pos.line env = pure false := by rfl) :
    wpAny (model prog w) A (exec (.Expr e pos) env) Q E s := wpAny_Expr_any h (by unfold interactive; rw [HE.kind]; rfl) hs
/-- l.append(e) -/
theorem appM {e : Expr} {pos : Pos} {i : Nat} {l : Addr} {ps : List VP} {Q : Value → Shared → Prop} (I : St g G O L m objs s) (hi : objs[i]? = some (l, isL ps))
    (h : wpAny (model prog w) A (eval e env) (fun v s₂ => wpAny (model prog w) A (call (.builtin "list.append") [.ref l, v]) Q E s₂) E s) :
    MethodOn prog w A "append" pos (.ref l) [(false, eval e env)] Q E s := by
  refine methL (M := model prog w) I hi slot_list_append ty_list_append ?_
  refine Calls.callWith_builtin rfl (Calls.evalArgs_plain (Calls.spliced_cons (wpAny_mono h (fun v s₂ h₂ => Calls.spliced_nil ?_) fun _ _ x => x)))
  exact h₂
theorem appLI {i : Nat} {l : Addr} {xs : List Int} {x : Int} {t : Tok} {Q : Value → Shared → Prop} (I : St g G O L m objs s) (hi : objs[i]? = some (l, isLI xs))
    (h : ∀ s', St g G O L m (objs.set i (l, isLI (xs ++ [x]))) s' → Q .none s') (hz : xs.length ≤ 1000 := by omega) : wpAny (model prog w) A (call (.builtin "list.append") [.ref l, .int x t]) Q E s := by
  refine appL I hi (P := isI x) ⟨_, rfl⟩ (fun s' I' => h s' ?_)
  unfold isLI
  rw [List.map_append]; exact I'
/-- l.pop() -/
theorem popM {pos : Pos} {i : Nat} {l : Addr} {ps : List VP} {P : VP} {Q : Value → Shared → Prop} (I : St g G O L m objs s) (hi : objs[i]? = some (l, isL (ps ++ [P]))) (hz : ps.length ≤ 1000)
    (k : ∀ v s₂, P v → St g G O L m (objs.set i (l, isL ps)) s₂ → Q v s₂) : MethodOn prog w A "pop" pos (.ref l) [] Q E s := by
  refine methL (M := model prog w) I hi F.slot_list_pop ty_list_pop ?_
  obtain ⟨vs, n, hl, hf⟩ := I.list hi
  have hn : vs.length = ps.length + 1 := by rw [← hf.1]; simp
  obtain ⟨us, u, rfl⟩ : ∃ us u, vs = us ++ [u] := ⟨vs.dropLast, vs.getLast (by rintro rfl; simp at hn), (List.dropLast_concat_getLast _).symm⟩
  have hu : us.length = ps.length := by simpa using hn
  have hfu : Fit ps us := ⟨hu.symm, fun j P' v hj hv => hf.2 j P' v (by rw [List.getElem?_append_left (List.getElem?_eq_some_iff.mp hj).1]; exact hj) (by rw [List.getElem?_append_left (List.getElem?_eq_some_iff.mp hv).1]; exact hv)⟩
  refine PySem.P.pop_list (y := u) hl (by simp) (k u _ (hf.2 ps.length P u (by simp) (by rw [← hu]; simp)) (I.updList hi hl ?_ rfl rfl rfl)) (by rw [List.size_toArray, hn, sizeLine_eq]; omega)
  have : ((us ++ [u]).toArray.eraseIdxIfInBounds ((us ++ [u]).toArray.size - 1)).toList = us := by
    simp
    rw [List.eraseIdx_append_of_length_le (Nat.le_refl _)]; simp
  rw [this]; exact hfu
theorem popLI {pos : Pos} {i : Nat} {l : Addr} {xs : List Int} {x : Int} {Q : Value → Shared → Prop} (I : St g G O L m objs s) (hi : objs[i]? = some (l, isLI (xs ++ [x])))
    (k : ∀ t s₂, St g G O L m (objs.set i (l, isLI xs)) s₂ → Q (.int x t) s₂) (hz : xs.length ≤ 1000 := by omega) : MethodOn prog w A "pop" pos (.ref l) [] Q E s := by
  unfold isLI at hi
  rw [List.map_append] at hi
  exact popM I hi (by rw [List.length_map]; exact hz) (fun v s₂ ⟨t, e⟩ I₂ => e ▸ k t s₂ I₂)
end

-- names
end Mine
end
-- NM
section
open PySem PySem.W PyProof.Rows
set_option maxRecDepth 100000
namespace Mine
theorem g_sorted (w : World) : nsIn (KF w) mainGlobals "sorted" = some none := by rfl
theorem b_sorted : bootBuiltins "sorted" = some (.builtin "sorted") := by decide +kernel
theorem g_zip (w : World) : nsIn (KF w) mainGlobals "zip" = some none := by rfl
theorem b_zip : bootBuiltins "zip" = some (.type "zip") := by decide +kernel
theorem g_range (w : World) : nsIn (KF w) mainGlobals "range" = some none := by rfl
theorem b_range : bootBuiltins "range" = some (.type "range") := by decide +kernel
theorem g_NodeInfo (w : World) : nsIn (KF w) mainGlobals "_NodeInfo" = some (some (.ref 163)) := by rfl
theorem g_TS (w : World) : nsIn (KF w) mainGlobals "TopologicalSorter" = some (some (.ref 260)) := by rfl
theorem f159 (w : World) : fnIn (KF w) 159 = true := by rfl
theorem f203 (w : World) : fnIn (KF w) 203 = true := by rfl
theorem f284 (w : World) : fnIn (KF w) 284 = true := by rfl
theorem f210 (w : World) : fnIn (KF w) 210 = true := by rfl
theorem g_ValueError (w : World) : nsIn (KF w) mainGlobals "ValueError" = some none := by rfl
theorem g_tuple (w : World) : nsIn (KF w) mainGlobals "tuple" = some none := by rfl
theorem g_bool (w : World) : nsIn (KF w) mainGlobals "bool" = some none := by rfl
theorem b_tuple : bootBuiltins "tuple" = some (.type "tuple") := by decide +kernel
theorem b_bool : bootBuiltins "bool" = some (.type "bool") := by decide +kernel
theorem g_set (w : World) : nsIn (KF w) mainGlobals "set" = some none := by rfl
theorem b_set : bootBuiltins "set" = some (.type "set") := by decide +kernel
theorem g_iter (w : World) : nsIn (KF w) mainGlobals "iter" = some none := by rfl
theorem b_iter : bootBuiltins "iter" = some (.builtin "iter") := by decide +kernel
theorem g_StopIteration (w : World) : nsIn (KF w) mainGlobals "StopIteration" = some none := by rfl
theorem b_StopIteration : bootBuiltins "StopIteration" = some (.type "StopIteration") := by decide +kernel
theorem f215 (w : World) : fnIn (KF w) 215 = true := by rfl
theorem f222 (w : World) : fnIn (KF w) 222 = true := by rfl
theorem f229 (w : World) : fnIn (KF w) 229 = true := by rfl
theorem f243 (w : World) : fnIn (KF w) 243 = true := by rfl
theorem f250 (w : World) : fnIn (KF w) 250 = true := by rfl
theorem g_heappush (w : World) : nsIn (KF w) mainGlobals "heappush" = some (some (.ref 45)) := by rfl
theorem g_heappop (w : World) : nsIn (KF w) mainGlobals "heappop" = some (some (.ref 52)) := by rfl
theorem g_siftdown (w : World) : nsIn (KF w) mainGlobals "_siftdown" = some (some (.ref 59)) := by rfl
theorem g_siftup (w : World) : nsIn (KF w) mainGlobals "_siftup" = some (some (.ref 66)) := by rfl
theorem g_len (w : World) : nsIn (KF w) mainGlobals "len" = some none := by rfl
theorem b_len : bootBuiltins "len" = some (.builtin "len") := by decide +kernel
theorem f45 (w : World) : fnIn (KF w) 45 = true := by rfl
theorem f52 (w : World) : fnIn (KF w) 52 = true := by rfl
theorem f59 (w : World) : fnIn (KF w) 59 = true := by rfl
theorem f66 (w : World) : fnIn (KF w) 66 = true := by rfl
theorem f274 (w : World) : fnIn (KF w) 274 = true := by rfl
theorem f279 (w : World) : fnIn (KF w) 279 = true := by rfl
theorem gx_buffer (w : World) : nsIn (KF w) mainGlobals "_buffer" = some (some (.ref 106)) := by rfl
theorem gx_hexlify (w : World) : nsIn (KF w) mainGlobals "hexlify" = some (some (.ref 115)) := by rfl
theorem gx_b16encode (w : World) : nsIn (KF w) mainGlobals "b16encode" = some (some (.ref 136)) := by rfl
theorem gx_b16decode (w : World) : nsIn (KF w) mainGlobals "b16decode" = some (some (.ref 144)) := by rfl
theorem gx_bytes_from_decode_data (w : World) : nsIn (KF w) mainGlobals "_bytes_from_decode_data" = some (some (.ref 79)) := by rfl
theorem gx_unhexlify (w : World) : nsIn (KF w) mainGlobals "unhexlify" = some (some (.ref 129)) := by rfl
theorem gx_ascii_buffer (w : World) : nsIn (KF w) mainGlobals "_ascii_buffer" = some (some (.ref 99)) := by rfl
theorem gx_hex_value (w : World) : nsIn (KF w) mainGlobals "_hex_value" = some (some (.ref 122)) := by rfl
theorem gx_NO_SEP (w : World) : nsIn (KF w) mainGlobals "_NO_SEP" = some (some (.ref 107)) := by rfl
theorem gx_bytes_types (w : World) : nsIn (KF w) mainGlobals "bytes_types" = some (some (.ref 72)) := by rfl
theorem gx_twin_re_1 (w : World) : nsIn (KF w) mainGlobals "_twin_re_1" = some (some (.ref 71)) := by rfl
theorem gx_law_octets (w : World) : nsIn (KF w) mainGlobals "_law_octets" = some (some (.ref 269)) := by rfl
theorem gx_law_turn (w : World) : nsIn (KF w) mainGlobals "_law_turn" = some (some (.ref 274)) := by rfl
theorem gx_law_served (w : World) : nsIn (KF w) mainGlobals "_law_served" = some (some (.ref 279)) := by rfl
theorem gx_law_handed (w : World) : nsIn (KF w) mainGlobals "_law_handed" = some (some (.ref 284)) := by rfl
theorem gx_type (w : World) : nsIn (KF w) mainGlobals "type" = some none := by rfl
theorem bx_type : bootBuiltins "type" = some (.type "type") := by decide +kernel
theorem gx_bytes (w : World) : nsIn (KF w) mainGlobals "bytes" = some none := by rfl
theorem bx_bytes : bootBuiltins "bytes" = some (.type "bytes") := by decide +kernel
theorem gx_bytearray (w : World) : nsIn (KF w) mainGlobals "bytearray" = some none := by rfl
theorem bx_bytearray : bootBuiltins "bytearray" = some (.type "bytearray") := by decide +kernel
theorem gx_int (w : World) : nsIn (KF w) mainGlobals "int" = some none := by rfl
theorem bx_int : bootBuiltins "int" = some (.type "int") := by decide +kernel
theorem gx_str (w : World) : nsIn (KF w) mainGlobals "str" = some none := by rfl
theorem bx_str : bootBuiltins "str" = some (.type "str") := by decide +kernel
theorem gx_isinstance (w : World) : nsIn (KF w) mainGlobals "isinstance" = some none := by rfl
theorem bx_isinstance : bootBuiltins "isinstance" = some (.builtin "isinstance") := by decide +kernel
theorem gx_list (w : World) : nsIn (KF w) mainGlobals "list" = some none := by rfl
theorem bx_list : bootBuiltins "list" = some (.type "list") := by decide +kernel
theorem gx_sum (w : World) : nsIn (KF w) mainGlobals "sum" = some none := by rfl
theorem bx_sum : bootBuiltins "sum" = some (.builtin "sum") := by decide +kernel
theorem gx_enumerate (w : World) : nsIn (KF w) mainGlobals "enumerate" = some none := by rfl
theorem bx_enumerate : bootBuiltins "enumerate" = some (.type "enumerate") := by decide +kernel
theorem f269 (w : World) : fnIn (KF w) 269 = true := by rfl
section
variable {prog : Program} {w : World} {A : Around} {E : Value → Shared → Prop} {s : Shared}
variable {g : Heap} {G : Array GenState} {O : OsState} {L : Addr} {m : List (Str × VP)} {objs : List (Addr × OP)} {env : Env} {names : List (Str × NameKind)} {cs : List (Str × Addr)}
theorem oNeg {a : Int} {t : Tok} {Q : Value → Shared → Prop} (I : St g G O L m objs s) (h : ∀ t s', St g G O L m objs s' → Q (.int (-a) t) s') : wpAny (model prog w) A (unaryOp .USub (.int a t)) Q E s :=
  PyProof.Rows.neg_int (h _ _ (I.tk _))
theorem meth_of_on {name : Str} {pos : Pos} {ov : Value} {trees : List (Bool × Sem Value)} {pl : Sem Bool} {Q : Value → Shared → Prop} (h : MethodOn prog w A name pos ov trees Q E s) :
    wpAny (model prog w) A (getMethod ov name pl) (fun fx s₂ => wpAny (model prog w) A (callWith pos fx.1 fx.2 trees []) Q E s₂) E s := by
  obtain ⟨T, id, h1, h2, h3, h4, h5, h6⟩ := h
  exact getMethod_builtin h4 h1 h2 h3 h5 h6

theorem ldI {M : Model} {x : Str} {pos : Pos} {i : Int} {Q : Value → Shared → Prop} (HE : EnvIs env L names cs) (I : St g G O L m objs s) (hm : m.lookup x = some (isI i)) (h : ∀ t, Q (.int i t) s)
    (hl : names.lookup x = some .local := by rfl) (hd : (x == ("__debug__" : Str)) = false := by rfl) : wpAny M A (eval (.Name x pos) env) Q E s :=
  ld HE I hm (fun v ⟨t, e⟩ => e ▸ h t) hl hd
theorem ldV {M : Model} {x : Str} {pos : Pos} {v : Value} {Q : Value → Shared → Prop} (HE : EnvIs env L names cs) (I : St g G O L m objs s) (hm : m.lookup x = some (isV v)) (h : Q v s)
    (hl : names.lookup x = some .local := by rfl) (hd : (x == ("__debug__" : Str)) = false := by rfl) : wpAny M A (eval (.Name x pos) env) Q E s :=
  ld HE I hm (fun v e => e ▸ h) hl hd
/-- the post behind a variable -/
theorem post_gen {M : Model} {α : Type} {t : Sem α} {P : α → Shared → Prop} (h : ∀ Q0 : α → Shared → Prop, (∀ v s', P v s' → Q0 v s') → wpAny M A t Q0 E s) : wpAny M A t P E s := h P fun _ _ x => x
theorem ifT {a b : Prop} {d : Decidable (true = true)} (h : a) : @ite Prop (true = true) d a b := by rw [if_pos rfl]; exact h
theorem ifF {a b : Prop} {d : Decidable (false = true)} (h : b) : @ite Prop (false = true) d a b := by rw [if_neg Bool.false_ne_true]; exact h
theorem whileQ {test : Expr} {body orelse : List Stmt} {R : Result → Shared → Prop} (I : Nat → Shared → Prop)
    (turn : ∀ n s, I n s → ∀ E1 (B : Flow → Shared → Prop), (∀ f s₃, (f = .next ∨ f = .cont) → (∃ m, m < n ∧ I m s₃) → B f s₃) → (∀ s₃, R (.ok .next) s₃ → B .brk s₃) → (∀ v s₃, R (.ok (.ret v)) s₃ → B (.ret v) s₃) →
      ∀ T1 : Bool → Shared → Prop, (∀ s₂, wpAny (model prog w) A (execs body env) B E1 s₂ → T1 true s₂) → (∀ s₂, wpAny (model prog w) A (execs orelse env) (fun f s₃ => R (.ok f) s₃) E1 s₂ → T1 false s₂) →
      wpAny (model prog w) A (isTrue test env (eval test env)) T1 E1 s)
    (n : Nat) (h : I n s) : codeAny (model prog w) A (.whileLoop test body orelse env) R s := by
  refine codeAny_whileLoop I (fun n s hI => ?_) n h
  refine turn n s hI _ (fun f s₃ => match f with | .next | .cont => ∃ m, m < n ∧ I m s₃ | .brk => R (.ok .next) s₃ | .ret v => R (.ok (.ret v)) s₃) (fun f s₃ hf hm => by rcases hf with rfl | rfl <;> exact hm) (fun _ h => h) (fun _ _ h => h) _ (fun s₂ h => ?_) (fun s₂ h => ?_)
  · rw [if_pos rfl]; exact h
  · rw [if_neg Bool.false_ne_true]; exact h
/-- the post of a test behind a variable -/
theorem post_if {M : Model} {t : Sem Bool} {P1 P2 : Shared → Prop} (h : ∀ Q : Bool → Shared → Prop, (∀ s', P1 s' → Q true s') → (∀ s', P2 s' → Q false s') → wpAny M A t Q E s) :
    wpAny M A t (fun ok s' => if ok = true then P1 s' else P2 s') E s := h _ (fun s' h => by rw [if_pos rfl]; exact h) (fun s' h => by rw [if_neg Bool.false_ne_true]; exact h)
theorem subscrI {value slice : Expr} {i : Nat} {l : Addr} {ps : List VP} {k x : Int} {t : Tok} {Q : Value → Shared → Prop} (I : St g G O L m objs s) (hi : objs[i]? = some (l, isL ps)) (h0 : 0 ≤ k) (hk : ps[k.toNat]? = some (isI x))
    (h : ∀ u, Q (.int x u) s) (hz : k < 2 ^ 63 := by omega) (hs : subscripted slice false (.ref l) (.int k t) = operate [.ref l, .int k t] (getItem (.ref l) (.int k t)) := by rfl) :
    wpAny (model prog w) A (subscriptTail value slice (.ref l) (.int k t)) Q E s := subscr I hi h0 hk (fun v ⟨u, e⟩ => e ▸ h u) hz hs
theorem subscrV {value slice : Expr} {i : Nat} {l a : Addr} {ps : List VP} {k : Int} {t : Tok} {Q : Value → Shared → Prop} (I : St g G O L m objs s) (hi : objs[i]? = some (l, isL ps)) (h0 : 0 ≤ k) (hk : ps[k.toNat]? = some (isV (.ref a)))
    (h : Q (.ref a) s) (hz : k < 2 ^ 63 := by omega) (hs : subscripted slice false (.ref l) (.int k t) = operate [.ref l, .int k t] (getItem (.ref l) (.int k t)) := by rfl) :
    wpAny (model prog w) A (subscriptTail value slice (.ref l) (.int k t)) Q E s := subscr I hi h0 hk (fun v e => e ▸ h) hz hs
end
end Mine
end
-- MI
section
open PySem PySem.W PyProof.Rows
set_option maxRecDepth 100000
namespace Mine

/-- an iterator, as the ledger knows it: what it stands on (src), how many items, what they are, its own objects at each place -/
structure It (prog : Program) (w : World) (A : Around) (it : Addr) (src : List (Addr × OP)) (n : Nat) (P : Nat → VP) (J : Nat → List (Addr × OP)) : Prop where
  next : ∀ {g : Heap} {G : Array GenState} {O : OsState} {L : Addr} {m : List (Str × VP)} {objs : List (Addr × OP)} {s : Shared} {Q : Option Value → Shared → Prop} {E : Value → Shared → Prop} (k : Nat), k < n →
    (∀ p ∈ src, p ∈ objs) → St g G O L m (objs ++ J k) s → (∀ v s', P k v → St g G O L m (objs ++ J (k + 1)) s' → Q (some v) s') → wpAny (model prog w) A (pyNext (.ref it)) Q E s
  done : ∀ {g : Heap} {G : Array GenState} {O : OsState} {L : Addr} {m : List (Str × VP)} {objs : List (Addr × OP)} {s : Shared} {Q : Option Value → Shared → Prop} {E : Value → Shared → Prop},
    (∀ p ∈ src, p ∈ objs) → St g G O L m (objs ++ J n) s → (∀ s', St g G O L m objs s' → Q none s') → wpAny (model prog w) A (pyNext (.ref it)) Q E s
  self : ∀ {g : Heap} {G : Array GenState} {O : OsState} {L : Addr} {m : List (Str × VP)} {objs : List (Addr × OP)} {s : Shared} {Q : Value → Shared → Prop} {E : Value → Shared → Prop} (k : Nat),
    St g G O L m (objs ++ J k) s → Q (.ref it) s → wpAny (model prog w) A (pyIter (.ref it)) Q E s

noncomputable def isLit (l : Addr) (k : Nat) : OP := fun o => o.cls = .type "list_iterator" ∧ o.data = .fields #[.ref l, .int k 0]
noncomputable def isTit (l : Addr) (k : Nat) : OP := fun o => o.cls = .type "tuple_iterator" ∧ o.data = .fields #[.ref l, .int k 0]
noncomputable def isRit (x left step : Int) : OP := fun o => o = { cls := .type "range_iterator", data := .fields #[rawInt x, rawInt left, rawInt step] }

section
variable {prog : Program} {w : World} {A : Around} {E : Value → Shared → Prop} {s : Shared}
variable {g : Heap} {G : Array GenState} {O : OsState} {L : Addr} {m : List (Str × VP)} {objs : List (Addr × OP)} {env : Env} {names : List (Str × NameKind)} {cs : List (Str × Addr)}

theorem last_get {objs : List (Addr × OP)} {p : Addr × OP} : (objs ++ [p])[objs.length]? = some p := by simp
theorem last_set {objs : List (Addr × OP)} {p q : Addr × OP} : (objs ++ [p]).set objs.length q = objs ++ [q] := by simp
theorem last_mem {objs : List (Addr × OP)} {p : Addr × OP} : p ∈ objs ++ [p] := by simp

theorem St.memList (I : St g G O L m objs s) {l : Addr} {ps : List VP} (hi : (l, isL ps) ∈ objs) : ∃ vs n, s.heap.get? l = some (lstO vs n) ∧ Fit ps vs := by
  obtain ⟨⟨o, h1, vs, n, rfl, h2⟩, _⟩ := I.led _ hi
  exact ⟨vs, n, h1, h2⟩
theorem St.memTup (I : St g G O L m objs s) {l : Addr} {ps : List VP} (hi : (l, isT ps) ∈ objs) : ∃ vs n, s.heap.get? l = some (tupO vs n) ∧ Fit ps vs := by
  obtain ⟨⟨o, h1, vs, n, rfl, h2⟩, _⟩ := I.led _ hi
  exact ⟨vs, n, h1, h2⟩
theorem isTuple_of {h : Heap} {l : Addr} {vs : List Value} {n : Nat} (e : h.get? l = some (tupO vs n)) : h.IsTuple l vs.toArray := ⟨_, e, rfl, n, rfl⟩

/-- the last object of the ledger may turn into anything and is dropped -/
theorem St.dropLast {p : Addr × OP} (I : St g G O L m (objs ++ [p]) s) {h' : Heap} {s' : Shared} (hs : Heap.ExtBut p.1 s.heap h') (hh : s'.heap = h') (hg : s'.gens = s.gens) (ho : s'.os = s.os) : St g G O L m objs s' := by
  have hp := I.led p last_mem
  have nd := I.nd
  rw [List.map_append] at nd
  exact (I.cut rfl).ign (C := p.1) (fun b o hb e => hs b o hb e) (fun q => (List.nodup_append.mp nd).2.2 _ q _ (by simp) rfl) hp.2.1 hp.2.2 hh hg ho

theorem It.list (hh : A.handled = none) (it l : Addr) (ps : List VP) : It prog w A it [(l, isL ps)] ps.length (fun k v => ∀ P, ps[k]? = some P → P v) (fun k => [(it, isLit l k)]) where
  next := fun {g G O L m objs s Q E} k hk hsrc I hQ => by
    obtain ⟨vs, n, hl, hf⟩ := I.memList (List.mem_append_left _ (hsrc _ (.head _)))
    obtain ⟨⟨o, h1, h2, h3⟩, _⟩ := I.led _ last_mem
    obtain ⟨v, hv, hP⟩ := hf.get (List.getElem?_eq_getElem hk)
    refine wpAny_pyNext_list_item (it := it) (l := l) (i := k) ⟨o, h1, h2, h3⟩ (isList_of hl) (by simpa using hv) fun h' ⟨o', h1', h2'⟩ hs => ?_
    refine hQ v _ (fun P e => ?_) ?_
    · rw [List.getElem?_eq_getElem hk] at e; cases e; exact hP
    · have := I.upd (P' := isLit l (k + 1)) last_get hs ⟨o', h1', h2'⟩ (s' := { s with heap := h' }) rfl rfl rfl
      rwa [last_set] at this
  done := fun {g G O L m objs s Q E} hsrc I hQ => by
    obtain ⟨vs, n, hl, hf⟩ := I.memList (List.mem_append_left _ (hsrc _ (.head _)))
    obtain ⟨⟨o, h1, h2, h3⟩, _⟩ := I.led _ last_mem
    refine wpAny_pyNext_list_end hh (it := it) (l := l) (i := ps.length) ⟨o, h1, h2, h3⟩ (isList_of hl) (by simp [hf.1]) fun h' hs => hQ _ (I.dropLast hs rfl rfl rfl)
  self := fun {g G O L m objs s Q E} k I h => by
    obtain ⟨⟨o, h1, h2, h3⟩, _⟩ := I.led _ last_mem
    exact wpAny_pyIter_listiter (it := it) (l := l) (i := k) ⟨o, h1, h2, h3⟩ h

theorem It.tuple (hh : A.handled = none) (it l : Addr) (ps : List VP) : It prog w A it [(l, isT ps)] ps.length (fun k v => ∀ P, ps[k]? = some P → P v) (fun k => [(it, isTit l k)]) where
  next := fun {g G O L m objs s Q E} k hk hsrc I hQ => by
    obtain ⟨vs, n, hl, hf⟩ := I.memTup (List.mem_append_left _ (hsrc _ (.head _)))
    obtain ⟨⟨o, h1, h2, h3⟩, _⟩ := I.led _ last_mem
    obtain ⟨v, hv, hP⟩ := hf.get (List.getElem?_eq_getElem hk)
    refine wpAny_pyNext_tuple_item (it := it) (t := l) (i := k) ⟨o, h1, h2, h3⟩ (isTuple_of hl) (by simpa using hv) fun h' ⟨o', h1', h2'⟩ hs => ?_
    refine hQ v _ (fun P e => ?_) ?_
    · rw [List.getElem?_eq_getElem hk] at e; cases e; exact hP
    · have := I.upd (P' := isTit l (k + 1)) last_get hs ⟨o', h1', h2'⟩ (s' := { s with heap := h' }) rfl rfl rfl
      rwa [last_set] at this
  done := fun {g G O L m objs s Q E} hsrc I hQ => by
    obtain ⟨vs, n, hl, hf⟩ := I.memTup (List.mem_append_left _ (hsrc _ (.head _)))
    obtain ⟨⟨o, h1, h2, h3⟩, _⟩ := I.led _ last_mem
    refine wpAny_pyNext_tuple_end hh (it := it) (t := l) (i := ps.length) ⟨o, h1, h2, h3⟩ (isTuple_of hl) (by simp [hf.1]) fun h' hs => hQ _ (I.dropLast hs rfl rfl rfl)
  self := fun {g G O L m objs s Q E} k I h => by
    obtain ⟨⟨o, h1, h2, h3⟩, _⟩ := I.led _ last_mem
    exact wpAny_pyIter_tupleiter (it := it) (t := l) (i := k) ⟨o, h1, h2, h3⟩ h

theorem It.range (hh : A.handled = none) (it : Addr) (a c : Int) (n : Nat) : It prog w A it [] n (fun k => isI (a + k * c)) (fun k => [(it, isRit (a + k * c) (n - k) c)]) where
  next := fun {g G O L m objs s Q E} k hk hsrc I hQ => by
    obtain ⟨⟨o, h1, h2⟩, _⟩ := I.led _ last_mem
    refine wpAny_pyNext_range_item (it := it) (x := a + k * c) (left := n - k) (step := c) (h1.trans (congrArg some (show o = _ from h2))) (by omega) fun h' h1' hs => ?_
    refine hQ _ _ ⟨_, rfl⟩ ?_
    have e1 : a + (k : Int) * c + c = a + ((k + 1 : Nat) : Int) * c := by rw [Int.natCast_add, Int.add_mul]; simp; omega
    have e2 : (n : Int) - k - 1 = n - ((k + 1 : Nat) : Int) := by omega
    rw [e1, e2] at h1'
    have := I.upd (P' := isRit (a + ((k + 1 : Nat) : Int) * c) (n - ((k + 1 : Nat) : Int)) c) last_get hs ⟨_, h1', rfl⟩ (s' := { s with heap := h', toks := s.toks + 1 }) rfl rfl rfl
    rwa [last_set] at this
  done := fun {g G O L m objs s Q E} hsrc I hQ => by
    obtain ⟨⟨o, h1, h2⟩, _⟩ := I.led _ last_mem
    exact wpAny_pyNext_range_end hh (it := it) (x := a + n * c) (left := n - n) (step := c) (h1.trans (congrArg some (show o = _ from h2))) (by omega) fun h' hs => hQ _ (I.dropLast hs rfl rfl rfl)
  self := fun {g G O L m objs s Q E} k I h => by
    obtain ⟨⟨o, h1, h2⟩, _⟩ := I.led _ last_mem
    exact wpAny_pyIter_rangeiter (it := it) (x := a + k * c) (left := n - k) (step := c) (h1.trans (congrArg some (show o = _ from h2))) h

theorem iterL {i : Nat} {l : Addr} {ps : List VP} {Q : Value → Shared → Prop} (I : St g G O L m objs s) (hi : objs[i]? = some (l, isL ps)) (h : ∀ a s', St g G O L m (objs ++ [(a, isLit l 0)]) s' → Q (.ref a) s') :
    wpAny (model prog w) A (pyIter (.ref l)) Q E s := by
  obtain ⟨vs, n, hl, hf⟩ := I.list hi
  exact wpAny_pyIter_list (isList_of hl) (h _ _ (I.push rfl ⟨rfl, rfl⟩ rfl rfl rfl))
theorem St.tup (I : St g G O L m objs s) {i : Nat} {l : Addr} {ps : List VP} (hi : objs[i]? = some (l, isT ps)) : ∃ vs n, s.heap.get? l = some (tupO vs n) ∧ Fit ps vs := I.memTup (List.mem_of_getElem? hi)
theorem iterT {i : Nat} {l : Addr} {ps : List VP} {Q : Value → Shared → Prop} (I : St g G O L m objs s) (hi : objs[i]? = some (l, isT ps)) (h : ∀ a s', St g G O L m (objs ++ [(a, isTit l 0)]) s' → Q (.ref a) s') :
    wpAny (model prog w) A (pyIter (.ref l)) Q E s := by
  obtain ⟨vs, n, hl, hf⟩ := I.tup hi
  exact wpAny_pyIter_tuple (isTuple_of hl) (h _ _ (I.push rfl ⟨rfl, rfl⟩ rfl rfl rfl))

/-- for x in ..: by an invariant over the number of items taken -/
theorem forI {R : Result → Shared → Prop} {x : Str} {px : Pos} {body : List Stmt} {it : Addr} {src : List (Addr × OP)} {n : Nat} {P : Nat → VP} {J : Nat → List (Addr × OP)} (W : It prog w A it src n P J) (HE : EnvIs env L names cs)
    (Inv : Nat → List (Str × VP) → List (Addr × OP) → Prop) (h0 : Inv 0 m objs) (hsrc : ∀ k m' objs', Inv k m' objs' → ∀ p ∈ src, p ∈ objs') (I : St g G O L m (objs ++ J 0) s)
    (turn : ∀ k g' m' objs' s', (∀ b o, g.get? b = some o → g'.get? b = some o) → k < n → Inv k m' objs' → St g' G O L ((x, P k) :: m') objs' s' → ∀ E',
      wpAny (model prog w) A (execs body env) (fun f s₃ => (f = .next ∨ f = .cont) ∧ ∃ m'' objs'', Inv (k + 1) m'' objs'' ∧ St g' G O L m'' objs'' s₃) E' s')
    (fin : ∀ m' objs' s', Inv n m' objs' → St g G O L m' objs' s' → R (.ok .next) s') (hl : names.lookup x = some .local := by rfl) :
    codeAny (model prog w) A (.forLoop (.Name x px) (.ref it) body [] env) R s := by
  refine codeAny_forLoop (I := fun k' s => ∃ k m' objs', k' = n - k ∧ k ≤ n ∧ Inv k m' objs' ∧ St g G O L m' (objs' ++ J k) s) ?_ n ⟨0, m, objs, rfl, Nat.zero_le _, h0, I⟩
  rintro k' s1 ⟨k, m1, objs1, rfl, hk, hI, I1⟩
  by_cases hkn : k < n
  · refine W.next k hkn (hsrc _ _ _ hI) I1 fun v s2 hv I2 => ?_
    refine wpAny_assign_Name (sto HE I2 hv (fun s3 I3 => ?_) hl)
    obtain ⟨g', I4, hg, back⟩ := I3.out
    refine wpAny_mono (turn k g' m1 objs1 s3 hg hkn hI I4 _) (fun f s4 ⟨hf, m2, objs2, hI2, I5⟩ => ?_) fun _ _ x => x
    have : ∃ k2, k2 < n - k ∧ ∃ k m' objs', k2 = n - k ∧ k ≤ n ∧ Inv k m' objs' ∧ St g G O L m' (objs' ++ J k) s4 := ⟨n - (k + 1), by omega, k + 1, m2, objs2, rfl, hkn, hI2, back _ _ _ I5⟩
    rcases hf with rfl | rfl <;> exact this
  · obtain rfl : k = n := by omega
    exact W.done (hsrc _ _ _ hI) I1 fun s2 I2 => wpAny_execs_nil (fin _ _ _ hI I2)

/-- what a free name of a comprehension is called within -/
noncomputable def relN (inner outer : List (Str × NameKind)) : List (Str × NameKind) := inner.map fun x => if x.2 == .free && outer.lookup x.1 == some .cell then (x.1, .cell) else x
theorem relN_eq {scope : Scope} (HE : EnvIs env L names cs) : (relabel scope env).names = relN scope.names names := by
  unfold relabel relN Env.kindOf
  rw [HE.names, HE.kind]
  simp
noncomputable def closL (cs : List (Str × Addr)) : List (Str × NameKind) → List (Str × Addr) → Option (List (Str × Addr))
  | [], acc => some acc
  | (n, k) :: r, acc => if k == .free then (match cs.lookup n with | some a => closL cs r ((n, a) :: acc) | none => none) else closL cs r acc
theorem closure_eq {scope : Scope} {cl : List (Str × Addr)} (HE : EnvIs env L names cs) (h : closL cs scope.names [] = some cl) : closureFor scope env = pure cl := by
  have key : ∀ (l : List (Str × NameKind)) (acc : List (Str × Addr)), closL cs l acc = some cl →
      (forIn l acc fun (x : Str × NameKind) r => match x with
        | (name, kind) => if (kind == NameKind.free) = true then do let y ← cellOf env name; pure (ForInStep.yield ((name, y) :: r)) else pure (ForInStep.yield r) : Sem (List (Str × Addr))) = pure cl := by
    intro l
    induction l with
    | nil => intro acc h; cases h; rfl
    | cons x r ih =>
      intro acc h
      obtain ⟨n, k⟩ := x
      rw [List.forIn_cons]
      unfold closL at h
      by_cases hk : (k == NameKind.free) = true
      · rw [if_pos hk] at h
        simp only [hk, if_true]
        cases hc : cs.lookup n with
        | none => rw [hc] at h; cases h
        | some a =>
          rw [hc] at h
          have : cellOf env n = pure a := by unfold cellOf; rw [HE.cells, hc]
          rw [this]
          exact ih _ h
      · rw [if_neg hk] at h
        simp only [hk]
        exact ih _ h
  simp only [closureFor]
  exact (congrArg (fun t : Sem (List (Str × Addr)) => t >>= fun r => pure r) (key scope.names [] h)).trans rfl
end
end Mine
end
-- MI2
section
open PySem PySem.W PyProof.Rows
set_option maxRecDepth 100000
namespace Mine

noncomputable def isNs : OP := fun o => ∃ es ep, o.data = .dict es ep ∧ StrKeys es
theorem isNs_of {h : Heap} {C : Addr} {f : Str → Option Value} (hn : h.Ns C f) : ∃ o, h.get? C = some o ∧ isNs o := by
  obtain ⟨o, es, ep, h1, h2, h3, h4⟩ := hn
  exact ⟨o, h1, es, ep, h2, h3⟩
theorem ns_of {h : Heap} {C : Addr} (hn : ∃ o, h.get? C = some o ∧ isNs o) : ∃ f, h.Ns C f := by
  obtain ⟨o, h1, es, ep, h2, h3⟩ := hn
  exact ⟨_, o, es, ep, h1, h2, h3, fun _ => rfl⟩

section
variable {prog : Program} {w : World} {A : Around} {E : Value → Shared → Prop} {s : Shared}
variable {g : Heap} {G : Array GenState} {O : OsState} {L : Addr} {m : List (Str × VP)} {objs : List (Addr × OP)} {env : Env} {names : List (Str × NameKind)} {cs : List (Str × Addr)}

/-- an object outside goes into the ledger -/
theorem St.add (I : St g G O L m objs s) {C : Addr} {P : OP} (h : ∃ o, s.heap.get? C = some o ∧ P o) (hC : C ∉ objs.map (·.1)) (hL : C ≠ L) (hg : g.get? C = none) : St g G O L m (objs ++ [(C, P)]) s := by
  refine ⟨I.ns, I.keep, I.newL, fun p hp => ?_, ?_, I.gens, I.os⟩
  · rcases List.mem_append.mp hp with hp | hp
    · exact I.led p hp
    · obtain rfl := List.mem_singleton.mp hp
      exact ⟨h, hL, hg⟩
  · rw [List.map_append]
    exact List.nodup_append.mpr ⟨I.nd, by simp, fun a ha b hb e => by subst e; simp at hb; subst hb; exact hC ha⟩

def FinU (prog : Program) (w : World) (A : Around) (E : Value → Shared → Prop) (g : Heap) (G : Array GenState) (O : OsState) (L : Addr) (m : List (Str × VP)) (Q : Value → Shared → Prop) (use : Option (Value → Sem Unit)) (a : Addr) (qs : List VP) (objs' : List (Addr × OP)) (s' : Shared) : Prop := match use with
  | none => (St g G O L m (objs' ++ [(a, isL qs)]) s' → Q (.ref a) s')
  | some u => ∀ C, St g G O L m (objs' ++ [(a, isL qs)] ++ [(C, isNs)]) s' → wpAny (model prog w) A (u (.ref a)) (fun _ s'' => ∃ m'' objs'', St g G O L m'' (objs'' ++ [(C, isNs)]) s'' ∧ ∀ s3, St g G O L m'' objs'' s3 → Q .none s3) E s'
theorem compL0 {elt iter : Expr} {x : Str} {px : Pos} {ifs : List Expr} {scope : Scope} {pos : Pos} {cl : List (Str × Addr)} {use : Option (Value → Sem Unit)} {Q : Value → Shared → Prop}
    {it : Addr} {src : List (Addr × OP)} {n : Nat} {P : Nat → VP} {J : Nat → List (Addr × OP)} (W : It prog w A it src n P J) (HE : EnvIs env L names cs)
    (Inv : Nat → List VP → List (Addr × OP) → Prop) (h0 : Inv 0 [] objs) (hsrc : ∀ k qs objs', Inv k qs objs' → ∀ p ∈ src, p ∈ objs') (hlen : ∀ k qs objs', Inv k qs objs' → qs.length ≤ 1000) (I : St g G O L m (objs ++ J 0) s)
    (turn : ∀ k g' C cenv s' qs objs', (∀ b o, g.get? b = some o → g'.get? b = some o) → EnvIs cenv C (relN scope.names names) cl → k < n → Inv k qs objs' → St g' G O C [(x, P k)] objs' s' → ∀ E',
      wpAny (model prog w) A (forIn ifs true fun c r => if r = true then do let ok ← isTrue c cenv (eval c cenv); pure (ForInStep.yield ok) else pure (ForInStep.yield r)) (fun ok s₂ => if ok = true then
        wpAny (model prog w) A (eval elt cenv) (fun v s₃ => ∃ m'' objs'' PV, PV v ∧ Inv (k + 1) (qs ++ [PV]) objs'' ∧ St g' G O C m'' objs'' s₃) E' s₂
        else ∃ m'' objs'', Inv (k + 1) qs objs'' ∧ St g' G O C m'' objs'' s₂) E' s')
    (fin : ∀ a qs objs' s', Inv n qs objs' → FinU prog w A E g G O L m Q use a qs objs' s')
    (hcell : (scope.names.all fun y => y.2 != .cell) = true := by rfl) (hk : scope.kind = .function := by rfl) (hx : (relN scope.names names).lookup x = some .local := by rfl) :
    wpAny (model prog w) A (newList []) (fun acc s₃ => wpAny (model prog w) A (newFunctionEnv scope env.globals cl [] env.qual none .none (some env)) (fun cenv s₄ =>
      codeAny (model prog w) A (.compStart (.ListComp elt [⟨.Name x px, iter, ifs, 0⟩] scope pos) 0 (.ref it) acc { cenv with scope := relabel scope env }) (compPost (model prog w) A E use Q acc cenv.locals) s₄) E s₃) E s := by
  refine newL (ps := []) I .nil (fun D s3 I3 => ?_) (by simp)
  have I3' : St g G O L m ((objs ++ [(D, isL [])]) ++ J 0) s3 := I3.perm (by
    rw [List.append_assoc, List.append_assoc]
    exact List.Perm.append_left _ (List.perm_append_comm ..))
  clear I3
  refine wpAny_newFunctionEnv (fun y hy => by simpa using List.all_eq_true.mp hcell y hy) (fun y hy => (nomatch hy)) (fun h' hns hsb => ?_) hk
  have hkeep : ∀ b o, s3.heap.get? b = some o → h'.get? b = some o := fun b o e => (hsb.2 b (Nat.ne_of_lt (Heap.lt_size e))).trans (Heap.get?_push_of_some _ e)
  generalize hC : s3.heap.objs.size = C at *
  have I4 : St (under s3 ((objs ++ [(D, isL [])]) ++ J 0)) G O C [] ((objs ++ [(D, isL [])]) ++ J 0) { s3 with heap := h', toks := s3.toks + ([] : List (Str × Value)).length } :=
    I3'.enter hns (fun x P hx => by cases hx) hkeep (Nat.le_of_eq hC) rfl rfl
  have hstay := I3'.stays
  have hleave : ∀ {L' : Addr} {m' : List (Str × VP)} {objs' : List (Addr × OP)} {s' : Shared}, St (under s3 ((objs ++ [(D, isL [])]) ++ J 0)) G O L' m' objs' s' → St g G O L m objs' s' := fun I' => I3'.leave I'
  have hCL : C ≠ L := by
    obtain ⟨f, hf, _⟩ := I3'.ns
    exact Nat.ne_of_gt (hC ▸ hf.lt)
  have hCg : g.get? C = none := by
    cases q : g.get? C with
    | none => rfl
    | some o => exact absurd (Heap.lt_size (I3'.keep _ _ q)) (by rw [hC]; exact Nat.lt_irrefl _)
  generalize hg1 : under s3 ((objs ++ [(D, isL [])]) ++ J 0) = g1 at *
  generalize hs4 : ({ s3 with heap := h', toks := s3.toks + ([] : List (Str × Value)).length } : Shared) = s4 at *
  have HC : EnvIs { (newEnv scope C env.globals cl env.qual none .none (some env) builtinsNs) with scope := relabel scope env } C (relN scope.names names) cl :=
    ⟨hk, relN_eq HE, rfl, HE.globals, HE.builtins, rfl⟩
  have loop : ∀ cenv, EnvIs cenv C (relN scope.names names) cl → codeAny (model prog w) A (.compLoop (.ListComp elt [⟨.Name x px, iter, ifs, 0⟩] scope pos) 0 (.ref it) (.ref D) cenv) (compPost (model prog w) A E use Q (.ref D) C) s4 := by
    intro cenv HC
    refine codeAny_compLoop_tests (I := fun k' s => ∃ k qs objs' m', k' = n - k ∧ k ≤ n ∧ Inv k qs objs' ∧ St g1 G O C m' ((objs' ++ [(D, isL qs)]) ++ J k) s) ?_ n ⟨0, [], objs, [], rfl, Nat.zero_le _, h0, I4⟩
    rintro k' s5 ⟨k, qs, objs1, m1, rfl, hkn, hI, I5⟩
    by_cases hlt : k < n
    · refine W.next k hlt (fun p hp => List.mem_append_left _ (hsrc _ _ _ hI p hp)) I5 fun v s6 hv I6 => ?_
      refine wpAny_assign_Name (sto HC I6 hv (fun s7 I7 => ?_) hx)
      rw [List.append_assoc] at I7
      obtain ⟨g2, I8, hg2, back⟩ := I7.out
      have I9 := I8.loc (m' := [(x, P k)]) ⟨⟨P k, by simp [List.lookup_cons], fun _ x => x⟩, trivial⟩
      refine wpAny_mono (turn k g2 C cenv s7 qs objs1 (fun b o e => hg2 b o (hstay b o e)) HC hlt hI I9 _) (fun ok s8 h8 => ?_) fun _ _ x => x
      cases ok with
      | false =>
        rw [if_neg Bool.false_ne_true] at h8 ⊢
        obtain ⟨m2, objs2, hI2, I10⟩ := h8
        refine ⟨n - (k + 1), by omega, k + 1, qs, objs2, m2, rfl, hlt, hI2, ?_⟩
        have := back _ _ _ I10
        rwa [← List.append_assoc] at this
      | true =>
        rw [if_pos rfl] at h8 ⊢
        refine wpAny_mono h8 (fun v2 s9 ⟨m2, objs2, PV, hPV, hI2, I10⟩ => ?_) fun _ _ x => x
        have I11 := back _ _ _ I10
        have hz := hlen _ _ _ hI
        refine appL (i := objs2.length) (ps := qs) I11 (by simp) hPV (fun s10 I12 => ?_) hz
        refine ⟨n - (k + 1), by omega, k + 1, qs ++ [PV], objs2, m2, rfl, hlt, hI2, ?_⟩
        have e : (objs2 ++ ([(D, isL qs)] ++ J (k + 1))).set objs2.length (D, isL (qs ++ [PV])) = (objs2 ++ [(D, isL (qs ++ [PV]))]) ++ J (k + 1) := by simp
        rwa [e] at I12
    · obtain rfl : k = n := by omega
      refine W.done (fun p hp => List.mem_append_left _ (hsrc _ _ _ hI p hp)) I5 fun s6 I6 => ?_
      obtain ⟨f, hf, _⟩ := I6.ns
      have hCo : C ∉ (objs1 ++ [(D, isL qs)]).map (·.1) := fun q => by
        obtain ⟨p, hp, e⟩ := List.mem_map.mp q
        exact (I6.led p hp).2.1 e
      have I7 := hleave I6
      have fin' := fin D qs objs1
      cases use with
      | none => exact ⟨f, hf, fun h'' hs => fin' _ hI (I7.ign (fun b o hb e => (hs.2 b hb).trans e) hCo hCL hCg rfl rfl rfl)⟩
      | some u =>
        refine wpAny_mono (fin' _ hI C (I7.add (isNs_of hf) hCo hCL hCg)) (fun _ s7 ⟨m2, objs2, I8, hq⟩ => ?_) fun _ _ x => x
        obtain ⟨f2, hf2⟩ := ns_of (I8.led _ last_mem).1
        exact ⟨f2, hf2, fun h'' hs => hq _ (I8.dropLast (p := (C, isNs)) (fun b o hb e => (hs.2 b hb).trans e) rfl rfl rfl)⟩
  exact codeAny_compStart_list (loop _ HC) (W.self 0 I4 (loop _ HC))
theorem compL {elt iter : Expr} {x : Str} {px : Pos} {ifs : List Expr} {scope : Scope} {pos : Pos} {cl : List (Str × Addr)} {Q : Value → Shared → Prop}
    {it : Addr} {src : List (Addr × OP)} {n : Nat} {P : Nat → VP} {J : Nat → List (Addr × OP)} (W : It prog w A it src n P J) (HE : EnvIs env L names cs)
    (Inv : Nat → List VP → List (Addr × OP) → Prop) (h0 : Inv 0 [] objs) (hsrc : ∀ k qs objs', Inv k qs objs' → ∀ p ∈ src, p ∈ objs') (hlen : ∀ k qs objs', Inv k qs objs' → qs.length ≤ 1000) (I : St g G O L m (objs ++ J 0) s)
    (turn : ∀ k g' C cenv s' qs objs', (∀ b o, g.get? b = some o → g'.get? b = some o) → EnvIs cenv C (relN scope.names names) cl → k < n → Inv k qs objs' → St g' G O C [(x, P k)] objs' s' → ∀ E',
      wpAny (model prog w) A (forIn ifs true fun c r => if r = true then do let ok ← isTrue c cenv (eval c cenv); pure (ForInStep.yield ok) else pure (ForInStep.yield r)) (fun ok s₂ => if ok = true then
        wpAny (model prog w) A (eval elt cenv) (fun v s₃ => ∃ m'' objs'' PV, PV v ∧ Inv (k + 1) (qs ++ [PV]) objs'' ∧ St g' G O C m'' objs'' s₃) E' s₂
        else ∃ m'' objs'', Inv (k + 1) qs objs'' ∧ St g' G O C m'' objs'' s₂) E' s')
    (fin : ∀ a qs objs' s', Inv n qs objs' → St g G O L m (objs' ++ [(a, isL qs)]) s' → Q (.ref a) s')
    (hcell : (scope.names.all fun y => y.2 != .cell) = true := by rfl) (hk : scope.kind = .function := by rfl) (hx : (relN scope.names names).lookup x = some .local := by rfl) :
    wpAny (model prog w) A (newList []) (fun acc s₃ => wpAny (model prog w) A (newFunctionEnv scope env.globals cl [] env.qual none .none (some env)) (fun cenv s₄ =>
      codeAny (model prog w) A (.compStart (.ListComp elt [⟨.Name x px, iter, ifs, 0⟩] scope pos) 0 (.ref it) acc { cenv with scope := relabel scope env }) (compPost (model prog w) A E none Q acc cenv.locals) s₄) E s₃) E s :=
  compL0 (use := none) W HE Inv h0 hsrc hlen I turn fin hcell hk hx
theorem compLU {elt iter : Expr} {x : Str} {px : Pos} {ifs : List Expr} {scope : Scope} {pos : Pos} {cl : List (Str × Addr)} {u : Value → Sem Unit} {Q : Value → Shared → Prop}
    {it : Addr} {src : List (Addr × OP)} {n : Nat} {P : Nat → VP} {J : Nat → List (Addr × OP)} (W : It prog w A it src n P J) (HE : EnvIs env L names cs)
    (Inv : Nat → List VP → List (Addr × OP) → Prop) (h0 : Inv 0 [] objs) (hsrc : ∀ k qs objs', Inv k qs objs' → ∀ p ∈ src, p ∈ objs') (hlen : ∀ k qs objs', Inv k qs objs' → qs.length ≤ 1000) (I : St g G O L m (objs ++ J 0) s)
    (turn : ∀ k g' C cenv s' qs objs', (∀ b o, g.get? b = some o → g'.get? b = some o) → EnvIs cenv C (relN scope.names names) cl → k < n → Inv k qs objs' → St g' G O C [(x, P k)] objs' s' → ∀ E',
      wpAny (model prog w) A (forIn ifs true fun c r => if r = true then do let ok ← isTrue c cenv (eval c cenv); pure (ForInStep.yield ok) else pure (ForInStep.yield r)) (fun ok s₂ => if ok = true then
        wpAny (model prog w) A (eval elt cenv) (fun v s₃ => ∃ m'' objs'' PV, PV v ∧ Inv (k + 1) (qs ++ [PV]) objs'' ∧ St g' G O C m'' objs'' s₃) E' s₂
        else ∃ m'' objs'', Inv (k + 1) qs objs'' ∧ St g' G O C m'' objs'' s₂) E' s')
    (fin : ∀ a qs objs' s', Inv n qs objs' → ∀ C, St g G O L m (objs' ++ [(a, isL qs)] ++ [(C, isNs)]) s' → wpAny (model prog w) A (u (.ref a)) (fun _ s'' => ∃ m'' objs'', St g G O L m'' (objs'' ++ [(C, isNs)]) s'' ∧ ∀ s3, St g G O L m'' objs'' s3 → Q .none s3) E s')
    (hcell : (scope.names.all fun y => y.2 != .cell) = true := by rfl) (hk : scope.kind = .function := by rfl) (hx : (relN scope.names names).lookup x = some .local := by rfl) :
    wpAny (model prog w) A (newList []) (fun acc s₃ => wpAny (model prog w) A (newFunctionEnv scope env.globals cl [] env.qual none .none (some env)) (fun cenv s₄ =>
      codeAny (model prog w) A (.compStart (.ListComp elt [⟨.Name x px, iter, ifs, 0⟩] scope pos) 0 (.ref it) acc { cenv with scope := relabel scope env }) (compPost (model prog w) A E (some u) Q acc cenv.locals) s₄) E s₃) E s :=
  compL0 (use := some u) W HE Inv h0 hsrc hlen I turn fin hcell hk hx
end
end Mine
end
-- MC
section
open PySem PySem.W PyProof.Rows
set_option maxRecDepth 100000
namespace Mine

noncomputable def isCell (P : VP) : OP := fun o => ∃ v, o.data = .cell (some v) ∧ P v
noncomputable def isCell0 : OP := fun o => ∃ v, o.data = .cell v
theorem isCell.c0 {P : VP} {o : Obj} (h : isCell P o) : isCell0 o := let ⟨v, e, _⟩ := h; ⟨_, e⟩
noncomputable def cellP : Option Value → OP
  | some v => isCell (isV v)
  | none => isCell0
noncomputable def cellLed (names : List (Str × NameKind)) (bs : List (Str × Value)) (cs : List (Str × Addr)) : List (Addr × OP) := cs.map fun x => (x.2, cellP (bindC (fun n => names.lookup n) bs (fun _ => none) x.1))
noncomputable def CovF (f : Str → Option Value) : List (Str × VP) → Prop
  | [] => True
  | p :: r => (∃ v, f p.1 = some v ∧ p.2 v) ∧ CovF f r
theorem CovF.get {f : Str → Option Value} : ∀ {m' : List (Str × VP)}, CovF f m' → ∀ x P, m'.lookup x = some P → ∃ v, f x = some v ∧ P v
  | [], _, _, _, h => by cases h
  | p :: r, ⟨h1, h2⟩, x, P, h => by
    rcases lookup_up h with ⟨rfl, rfl⟩ | ⟨_, h⟩
    · exact h1
    · exact h2.get x P h

section
variable {prog : Program} {w : World} {A : Around} {E : Value → Shared → Prop} {s : Shared}
variable {g : Heap} {G : Array GenState} {O : OsState} {L : Addr} {m : List (Str × VP)} {objs : List (Addr × OP)} {env : Env} {names : List (Str × NameKind)} {cs : List (Str × Addr)}

theorem ldC {M : Model} {x : Str} {pos : Pos} {P : VP} {c : Addr} {i : Nat} {Q : Value → Shared → Prop} (HE : EnvIs env L names cs) (I : St g G O L m objs s) (hc : cs.lookup x = some c) (hi : objs[i]? = some (c, isCell P)) (h : ∀ v, P v → Q v s)
    (hl : names.lookup x = some .cell := by rfl) (hd : (x == ("__debug__" : Str)) = false := by rfl) : wpAny M A (eval (.Name x pos) env) Q E s := by
  obtain ⟨o, h1, v, h2, h3⟩ := I.obj hi
  exact wpAny_Name (wpAny_loadName_cell HE.kind (by unfold Env.kindOf; rw [HE.names]; exact hl) (HE.cells ▸ hc) ⟨o, h1, h2⟩ (h v h3)) hd

theorem ldCI {M : Model} {x : Str} {pos : Pos} {c : Addr} {i : Nat} {y : Int} {Q : Value → Shared → Prop} (HE : EnvIs env L names cs) (I : St g G O L m objs s) (hc : cs.lookup x = some c) (hi : objs[i]? = some (c, isCell (isI y))) (h : ∀ t, Q (.int y t) s)
    (hl : names.lookup x = some .cell := by rfl) (hd : (x == ("__debug__" : Str)) = false := by rfl) : wpAny M A (eval (.Name x pos) env) Q E s := ldC HE I hc hi (fun v ⟨t, e⟩ => e ▸ h t) hl hd
theorem ldCV {M : Model} {x : Str} {pos : Pos} {c : Addr} {i : Nat} {v : Value} {Q : Value → Shared → Prop} (HE : EnvIs env L names cs) (I : St g G O L m objs s) (hc : cs.lookup x = some c) (hi : objs[i]? = some (c, isCell (isV v))) (h : Q v s)
    (hl : names.lookup x = some .cell := by rfl) (hd : (x == ("__debug__" : Str)) = false := by rfl) : wpAny M A (eval (.Name x pos) env) Q E s := ldC HE I hc hi (fun u e => e ▸ h) hl hd

theorem stoC {M : Model} {x : Str} {P : VP} {P0 : OP} {v : Value} {c : Addr} {i : Nat} {Q : Unit → Shared → Prop} (HE : EnvIs env L names cs) (I : St g G O L m objs s) (hc : cs.lookup x = some c) (hi : objs[i]? = some (c, P0)) (h0 : ∀ o, P0 o → isCell0 o) (hP : P v)
    (h : ∀ s', St g G O L m (objs.set i (c, isCell P)) s' → Q () s') (hl : names.lookup x = some .cell := by rfl) : wpAny M A (storeName env x v) Q E s := by
  obtain ⟨o, h1, h2⟩ := I.obj hi
  obtain ⟨v0, h3⟩ := h0 o h2
  refine wpAny_storeName_cell HE.kind (by unfold Env.kindOf; rw [HE.names]; exact hl) (HE.cells ▸ hc) ⟨o, h1, h3⟩ (fun h' ⟨o', h1', h2'⟩ hs => h _ (I.upd hi hs ⟨o', h1', v, h2', hP⟩ rfl rfl rfl))

theorem swaps_cell {value : Expr} {x : Str} {px : Pos} {line : Nat} (HE : EnvIs env L names cs) (hl : names.lookup x = some .cell) : swapsWith value (some (.Name x px)) line env = pure false := by
  have hk : env.kindOf x = some .cell := by unfold Env.kindOf; rw [HE.names]; exact hl
  unfold swapsWith
  have e : (NameKind.cell == NameKind.local) = false := rfl
  cases value <;> simp only [hk, Option.some_beq_some, e, Bool.and_false, Bool.false_and] <;> rfl

theorem call_fnC {f : Addr} {fd : FuncData} {o : Obj} {body : List Stmt} {args : List Value} {bs : List (Str × Value)} {m' : List (Str × VP)} {Q : Value → Shared → Prop}
    (I : St g G O L m objs s) (hW : W w g) (hroom : A.depth < recursionLimit)
    (ho : (KF w).lookup f = some o) (hdata : o.data = .func fd) (hbody : fd.body = .stmts body) (hcd : codeIn (KF w) fd.code fd.qualname = true)
    (hbind : bindArgs fd ⟨args, []⟩ = pure bs) (hclo : fd.closure = [])
    (hkind : (bs.all fun y => fd.scope.names.lookup y.1 == some .local || fd.scope.names.lookup y.1 == some .cell) = true)
    (hnd : ((cellsFrom 0 fd.scope.names []).map (·.1)).Nodup)
    (hm : CovF (bindL (fun n => fd.scope.names.lookup n) bs fun _ => none) m')
    (h : ∀ g' L' s' env, EnvIs env L' fd.scope.names (cellsFrom (L' + 1) fd.scope.names []) → W w g' → St g' G O L' m' (objs ++ cellLed fd.scope.names bs (cellsFrom (L' + 1) fd.scope.names [])) s' → ∀ E',
      wpAny (model prog w) (A.deeper env) (execs body env) (fun fl s₂ => ∃ m₂ objs₂, St g' G O L' m₂ objs₂ s₂ ∧ (St g G O L m objs₂ s₂ → Q (flowVal fl) s₂)) E' s')
    (hco : fd.scope.isCoroutine = false := by rfl) (hgen : fd.scope.isGenerator = false := by rfl) (hk : fd.scope.kind = .function := by rfl)
    (hgl : fd.globals = mainGlobals := by rfl) (hbl : fd.builtins = builtinsNs := by rfl) :
    wpAny (model prog w) A (call (.ref f) args) Q E s := by
  have hWs : W w s.heap := hW.keeps I.keep
  refine wpAny_call (codeAny_call_cells hroom (hWs.k _ _ ho) hdata hWs.lim (codeRec_of hWs.k hcd) hbody hbind hclo (kindsX hkind _) (fun s₁ X => ?_) hco hgen hk)
  have hsame := X.toInCall.same
  have hns := X.toInCall.ns
  have hk₀ := X.toInCall.keep
  have hkind2 : (callEnvC fd s.heap.objs.size f).kindOf = fun n => fd.scope.names.lookup n := rfl
  have hloc : (callEnvC fd s.heap.objs.size f).locals = s.heap.objs.size := rfl
  have hcells : (callEnvC fd s.heap.objs.size f).cells = cellsFrom (s.heap.objs.size + 1) fd.scope.names [] := rfl
  rw [hloc, hkind2] at hns
  obtain ⟨h1, tk, hs1⟩ := hsame
  have I' : St (under s objs) G O s.heap.objs.size m' objs s₁ := I.enter hns hm.get hk₀ (Nat.le_refl _) (by rw [hs1]) (by rw [hs1])
  have hcell := X.cell
  have habove := X.above
  have hapart := X.apart
  rw [hcells, hkind2] at hcell
  rw [hcells] at hapart
  rw [hcells, hloc] at habove
  have hfull : St (under s objs) G O s.heap.objs.size m' (objs ++ cellLed fd.scope.names bs (cellsFrom (s.heap.objs.size + 1) fd.scope.names [])) s₁ := by
    have hfst : (cellLed fd.scope.names bs (cellsFrom (s.heap.objs.size + 1) fd.scope.names [])).map (·.1) = (cellsFrom (s.heap.objs.size + 1) fd.scope.names []).map (·.2) := by
      unfold cellLed; rw [List.map_map]; rfl
    have hlk : ∀ x ∈ cellsFrom (s.heap.objs.size + 1) fd.scope.names [], (cellsFrom (s.heap.objs.size + 1) fd.scope.names []).lookup x.1 = some x.2 := by
      have hnames : ∀ n n' (l : List (Str × NameKind)) (a a' : List (Str × Addr)), a.map (·.1) = a'.map (·.1) → (cellsFrom n l a).map (·.1) = (cellsFrom n' l a').map (·.1) := by
        intro n n' l
        induction l generalizing n n' with
        | nil => intro a a' e; exact e
        | cons y r ih =>
          intro a a' e
          unfold cellsFrom
          split
          · exact ih _ _ _ _ (by simp [e])
          · exact ih _ _ _ _ e
      have nd : ((cellsFrom (s.heap.objs.size + 1) fd.scope.names []).map (·.1)).Nodup := by rw [hnames _ 0 _ [] [] rfl]; exact hnd
      have gen : ∀ (l : List (Str × Addr)), (l.map (·.1)).Nodup → ∀ x ∈ l, l.lookup x.1 = some x.2 := by
        intro l
        induction l with
        | nil => intro _ x hx; cases hx
        | cons y r ih =>
          intro hn x hx
          rw [List.map_cons, List.nodup_cons] at hn
          rcases List.mem_cons.mp hx with rfl | hx
          · rw [List.lookup_cons, beq_self_eq_true]
          · have : (x.1 == y.1) = false := by
              simp only [beq_eq_false_iff_ne, ne_eq]
              intro e
              exact hn.1 (e ▸ List.mem_map_of_mem hx)
            rw [List.lookup_cons, this]
            exact ih hn.2 x hx
      exact gen _ nd
    refine ⟨I'.ns, I'.keep, I'.newL, fun p hp => ?_, ?_, I'.gens, I'.os⟩
    · rcases List.mem_append.mp hp with hp | hp
      · exact I'.led p hp
      · obtain ⟨x, hx, rfl⟩ := List.mem_map.mp hp
        obtain ⟨o, e1, e2⟩ := hcell x.1 x.2 (hlk x hx)
        refine ⟨⟨o, e1, ?_⟩, Nat.ne_of_gt (habove x.1 x.2 hx), ?_⟩
        · cases q : bindC (fun n => fd.scope.names.lookup n) bs (fun _ => none) x.1 with
          | none => rw [q] at e2; exact ⟨_, e2⟩
          | some v => rw [q] at e2; exact ⟨v, e2, rfl⟩
        · cases q : (under s objs).get? x.2 with
          | none => rfl
          | some o => exact absurd (Heap.lt_size (of_hideAll _ q)) (Nat.not_lt.mpr (Nat.le_of_lt (habove x.1 x.2 hx)))
    · rw [List.map_append, hfst]
      refine List.nodup_append.mpr ⟨I'.nd, ?_, fun a ha b hb e => ?_⟩
      · exact List.pairwise_map.mpr hapart
      · subst e
        obtain ⟨p, hp, e1⟩ := List.mem_map.mp ha
        obtain ⟨x, hx, e2⟩ := List.mem_map.mp hb
        obtain ⟨⟨o, h1, _⟩, _⟩ := I.led p hp
        have := Heap.lt_size h1
        rw [e1, ← e2] at this
        exact absurd this (Nat.not_lt.mpr (Nat.le_of_lt (habove x.1 x.2 hx)))
  refine wpAny_mono (h _ _ _ _ ⟨hk, rfl, rfl, hgl, hbl, rfl⟩ (hW.keeps I.stays) hfull _) (fun fl s₂ ⟨m₂, objs₂, e1, e2⟩ => ?_) fun _ _ x => x
  have := e2 (I.leave e1)
  cases fl <;> exact this
end
end Mine
end
-- MP
section
namespace Mine
theorem nodup_sub_len {α : Type} [DecidableEq α] : ∀ {l k : List α}, l.Nodup → (∀ x ∈ l, x ∈ k) → l.length ≤ k.length
  | [], _, _, _ => Nat.zero_le _
  | x :: l, k, hn, hs => by
    rw [List.nodup_cons] at hn
    have hx := hs x (.head _)
    have := nodup_sub_len (l := l) (k := k.erase x) hn.2 fun y hy => (List.mem_erase_of_ne (by rintro rfl; exact hn.1 hy)).mpr (hs y (.tail _ hy))
    rw [List.length_erase_of_mem hx] at this
    have : 0 < k.length := List.length_pos_of_mem hx
    simp only [List.length_cons]; omega

/-- the first free place from p on, around -/
noncomputable def free16 (taken : List Int) (p : Int) : Nat → Int
  | 0 => p
  | f + 1 => if p ∈ taken then free16 taken ((p + 1).fmod 16) f else p
noncomputable def takeAll : List Int → List Int → List Int
  | taken, [] => taken
  | taken, w :: ws => takeAll (taken ++ [free16 taken w 16]) ws
noncomputable def spots : List Int := [0,1,2,3,4,5,6,7,8,9,10,11,12,13,14,15]
noncomputable def frees (wishes : List Int) : List Int := spots.filter fun p => p ∉ takeAll [] wishes
noncomputable def turnOf (wishes : List Int) : Int := (((frees wishes).map (· + 1)).getD 0 0).fmod 16

theorem fmod16 (a : Int) : a.fmod 16 = a % 16 := Int.fmod_eq_emod_of_nonneg a (by decide)

theorem free_exists {tk : List Int} (hl : tk.length < 16) (p : Int) : ∃ j : Nat, j < 16 ∧ (p + j) % 16 ∉ tk := by
  apply Classical.byContradiction
  intro hn
  have all : ∀ j : Nat, j < 16 → (p + j) % 16 ∈ tk := fun j hj => Classical.byContradiction fun q => hn ⟨j, hj, q⟩
  have nd : ((List.range 16).map fun j : Nat => (p + j) % 16).Nodup := by
    refine List.pairwise_map.mpr (List.Pairwise.imp_of_mem ?_ (List.nodup_range (n := 16)))
    intro a b ha hb ne e
    have ha := List.mem_range.mp ha
    have hb := List.mem_range.mp hb
    omega
  have := nodup_sub_len nd fun x hx => by
    obtain ⟨j, hj, rfl⟩ := List.mem_map.mp hx
    exact all j (List.mem_range.mp hj)
  simp at this
  omega
theorem takeAll_append (tk ws : List Int) (x : Int) : takeAll tk (ws ++ [x]) = takeAll tk ws ++ [free16 (takeAll tk ws) x 16] := by
  induction ws generalizing tk with
  | nil => rfl
  | cons y ws ih => exact ih _
theorem takeAll_length (tk ws : List Int) : (takeAll tk ws).length = tk.length + ws.length := by
  induction ws generalizing tk with
  | nil => rfl
  | cons y ws ih => rw [takeAll, ih]; simp; omega
theorem mem_spots {x : Int} : x ∈ spots ↔ 0 ≤ x ∧ x < 16 := by
  refine ⟨(show ∀ y ∈ spots, 0 ≤ y ∧ y < 16 by decide) x, fun h => ?_⟩
  obtain ⟨n, rfl⟩ := Int.eq_ofNat_of_zero_le h.1
  exact (show ∀ k : Fin 16, ((k.val : Nat) : Int) ∈ spots by decide) ⟨n, Int.ofNat_lt.mp h.2⟩
theorem spots_nodup : spots.Nodup := by decide
theorem spots_get {k : Nat} (h : k < 16) : spots[k]? = some (k : Int) := by
  have : ∀ k : Fin 16, spots[k.val]? = some (k.val : Int) := by decide
  exact this ⟨k, h⟩
theorem spots_take {k : Nat} (h : k < 16) : spots.take (k + 1) = spots.take k ++ [(k : Int)] := by
  rw [List.take_add_one, spots_get h]; rfl
theorem frees_ne {ws : List Int} (h : ws.length = 15) : frees ws ≠ [] := by
  intro e
  have : spots.length ≤ (takeAll [] ws).length := nodup_sub_len spots_nodup fun x hx => Classical.byContradiction fun q => by
    have : x ∈ frees ws := List.mem_filter.mpr ⟨hx, by simpa using q⟩
    rw [e] at this; cases this
  rw [takeAll_length, h] at this
  simp [spots] at this
end Mine
end
-- MP2
section
namespace Mine

noncomputable def sd (xs : List Int) (pos : Nat) (x : Int) : List Int :=
  if h : 0 < pos then
    if x < xs.getD ((pos - 1) / 2) 0 then sd (xs.set pos (xs.getD ((pos - 1) / 2) 0)) ((pos - 1) / 2) x else xs.set pos x
  else xs.set pos x
termination_by pos
decreasing_by omega
/-- the way down: the smaller child comes up, until a leaf; then the new item comes up from there -/
noncomputable def suLoop (xs : List Int) (n pos : Nat) : Nat → List Int × Nat
  | 0 => (xs, pos)
  | f + 1 =>
    if 2 * pos + 1 < n then
      let c := if 2 * pos + 2 < n ∧ ¬ xs.getD (2 * pos + 1) 0 < xs.getD (2 * pos + 2) 0 then 2 * pos + 2 else 2 * pos + 1
      suLoop (xs.set pos (xs.getD c 0)) n c f
    else (xs, pos)
noncomputable def su (xs : List Int) : List Int :=
  let r := suLoop xs xs.length 0 xs.length
  sd (r.1.set r.2 (xs.getD 0 0)) r.2 (xs.getD 0 0)

theorem suLoop_step (xs : List Int) (n pos c : Nat) (h : 2 * pos + 1 < n) (hc : c = if 2 * pos + 2 < n ∧ ¬ xs.getD (2 * pos + 1) 0 < xs.getD (2 * pos + 2) 0 then 2 * pos + 2 else 2 * pos + 1) (f : Nat) :
    suLoop xs n pos (f + 1) = suLoop (xs.set pos (xs.getD c 0)) n c f := by
  conv => lhs; unfold suLoop
  rw [if_pos h, hc]
theorem suLoop_end (xs : List Int) (n pos : Nat) (h : ¬ 2 * pos + 1 < n) (f : Nat) : suLoop xs n pos f = (xs, pos) := by
  cases f with
  | zero => rfl
  | succ f => unfold suLoop; rw [if_neg h]
theorem sd_length (xs : List Int) (p : Nat) (x : Int) : (sd xs p x).length = xs.length := by
  induction p using Nat.strongRecOn generalizing xs with
  | ind p ih =>
    unfold sd
    split
    · split
      · rw [ih _ (by omega)]; simp
      · simp
    · simp

theorem getD_set (xs : List Int) (i j : Nat) (v : Int) : (xs.set i v).getD j 0 = if i = j ∧ i < xs.length then v else xs.getD j 0 := by
  rw [List.getD_eq_getElem?_getD, List.getElem?_set, List.getD_eq_getElem?_getD]
  by_cases h : i = j
  · subst h
    by_cases h2 : i < xs.length
    · simp [h2]
    · simp [h2]
  · simp [h]

theorem setI_perm : ∀ {l : List Int} {i : Nat}, i < l.length → ∀ v, (l.set i v).Perm (v :: l.eraseIdx i)
  | [], _, h, _ => by simp at h
  | x :: r, 0, _, v => .refl _
  | x :: r, i + 1, h, v => by
    rw [List.set_cons_succ, List.eraseIdx_cons_succ]
    exact ((setI_perm (by simpa using h) v).cons x).trans (.swap ..)
theorem self_perm {l : List Int} {i : Nat} (h : i < l.length) : l.Perm (l.getD i 0 :: l.eraseIdx i) := by
  have := setI_perm h (l.getD i 0)
  have e : l.set i (l.getD i 0) = l := by
    apply List.ext_getElem?
    intro j
    rw [List.getElem?_set]
    split
    · rename_i e; subst e; simp [h]
    · rfl
  rwa [e] at this
theorem swap_perm : ∀ {xs : List Int} {i j : Nat}, i ≠ j → i < xs.length → j < xs.length → ∀ x, ((xs.set i (xs.getD j 0)).set j x).Perm (xs.set i x)
  | [], _, _, _, h, _, _ => by simp at h
  | y :: r, 0, 0, ne, _, _, _ => absurd rfl ne
  | y :: r, 0, j + 1, _, _, hj, x => by
    have hj' : j < r.length := by simpa using hj
    show (r.getD j 0 :: r.set j x).Perm (x :: r)
    refine ((setI_perm hj' x).cons _).trans ?_
    refine .trans (.swap ..) ?_
    exact (self_perm hj').symm.cons x
  | y :: r, i + 1, 0, _, hi, _, x => by
    have hi' : i < r.length := by simpa using hi
    show (x :: r.set i y).Perm (y :: r.set i x)
    refine ((setI_perm hi' y).cons x).trans (.trans (.swap ..) ?_)
    exact ((setI_perm hi' x).cons y).symm
  | y :: r, i + 1, j + 1, ne, hi, hj, x => by
    show (y :: (r.set i (r.getD j 0)).set j x).Perm (y :: r.set i x)
    exact (swap_perm (by omega) (by simpa using hi) (by simpa using hj) x).cons y

theorem sd_perm (xs : List Int) (p : Nat) (x : Int) (hp : p < xs.length) : (sd xs p x).Perm (xs.set p x) := by
  induction p using Nat.strongRecOn generalizing xs with
  | ind p ih =>
    unfold sd
    split
    · split
      · refine (ih _ (by omega) _ (by simp; omega)).trans ?_
        exact swap_perm (by omega) hp (by omega) x
      · exact .refl _
    · exact .refl _

noncomputable def IsH (xs : List Int) : Prop := ∀ i, 0 < i → i < xs.length → xs.getD ((i - 1) / 2) 0 ≤ xs.getD i 0

theorem IsH.root {xs : List Int} (h : IsH xs) : ∀ i, i < xs.length → xs.getD 0 0 ≤ xs.getD i 0 := by
  intro i
  induction i using Nat.strongRecOn with
  | ind i ih =>
    intro hi
    by_cases h0 : i = 0
    · subst h0; exact Int.le_refl _
    · exact Int.le_trans (ih ((i - 1) / 2) (by omega) (by omega)) (h i (by omega) hi)

/-- a heap but for the place p, where x is to stand -/
structure Hole (xs : List Int) (p : Nat) (x : Int) : Prop where
  rest : ∀ i, 0 < i → i < xs.length → i ≠ p → (i - 1) / 2 ≠ p → xs.getD ((i - 1) / 2) 0 ≤ xs.getD i 0
  kids : ∀ i, 0 < i → i < xs.length → (i - 1) / 2 = p → x ≤ xs.getD i 0
  over : 0 < p → ∀ i, 0 < i → i < xs.length → (i - 1) / 2 = p → xs.getD ((p - 1) / 2) 0 ≤ xs.getD i 0

theorem sd_heap (xs : List Int) (p : Nat) (x : Int) (hp : p < xs.length) (H : Hole xs p x) : IsH (sd xs p x) := by
  induction p using Nat.strongRecOn generalizing xs with
  | ind p ih =>
    unfold sd
    split
    · rename_i h0
      split
      · rename_i hlt
        refine ih _ (by omega) _ (by simp; omega) ⟨fun i hi hil hip hpp => ?_, fun i hi hil hpp => ?_, fun hq i hi hil hpp => ?_⟩
        · rw [List.length_set] at hil
          rw [getD_set, getD_set]
          by_cases h1 : (i - 1) / 2 = p
          · rw [if_pos ⟨h1.symm, hp⟩, if_neg (by omega)]
            exact H.over h0 i hi hil h1
          · rw [if_neg (by omega)]
            by_cases h2 : p = i
            · subst h2; exact absurd rfl hpp
            · rw [if_neg (by omega)]
              exact H.rest i hi hil (Ne.symm h2) h1
        · rw [List.length_set] at hil
          rw [getD_set]
          by_cases h2 : p = i
          · rw [if_pos ⟨h2, hp⟩]; omega
          · rw [if_neg (by omega)]
            have := H.rest i hi hil (Ne.symm h2) (by omega)
            rw [hpp] at this
            omega
        · rw [List.length_set] at hil
          rw [getD_set, getD_set, if_neg (by omega)]
          have hg := H.rest ((p - 1) / 2) hq (by omega) (by omega) (by omega)
          by_cases h2 : p = i
          · rw [if_pos ⟨h2, hp⟩]; exact hg
          · rw [if_neg (by omega)]
            have := H.rest i hi hil (Ne.symm h2) (by omega)
            rw [hpp] at this
            omega
      · rename_i hnl
        intro i hi hil
        rw [List.length_set] at hil
        rw [getD_set, getD_set]
        by_cases h1 : p = i
        · subst h1
          rw [if_neg (by omega), if_pos ⟨rfl, hp⟩]; omega
        · rw [if_neg (c := p = i ∧ _) (by omega)]
          by_cases h2 : p = (i - 1) / 2
          · rw [if_pos ⟨h2, hp⟩]; exact H.kids i hi hil h2.symm
          · rw [if_neg (by omega)]; exact H.rest i hi hil (Ne.symm h1) (Ne.symm h2)
    · rename_i h0
      obtain rfl : p = 0 := by omega
      intro i hi hil
      rw [List.length_set] at hil
      rw [getD_set, getD_set, if_neg (c := 0 = i ∧ _) (by omega)]
      by_cases h2 : 0 = (i - 1) / 2
      · rw [if_pos ⟨h2, hp⟩]; exact H.kids i hi hil h2.symm
      · rw [if_neg (by omega)]; exact H.rest i hi hil (by omega) (Ne.symm h2)

theorem push_heap {xs : List Int} (h : IsH xs) (x : Int) : IsH (sd (xs ++ [x]) xs.length x) ∧ (sd (xs ++ [x]) xs.length x).Perm (x :: xs) := by
  have hg : ∀ i, i < xs.length → (xs ++ [x]).getD i 0 = xs.getD i 0 := fun i hi => by
    rw [List.getD_eq_getElem?_getD, List.getElem?_append_left hi, List.getD_eq_getElem?_getD]
  refine ⟨sd_heap _ _ _ (by simp) ⟨fun i hi hil hip hpp => ?_, fun i hi hil hpp => ?_, fun _ i hi hil hpp => ?_⟩, ?_⟩
  · have : i < xs.length := by simp at hil; omega
    rw [hg _ this, hg _ (by omega)]
    exact h i hi this
  · simp at hil; omega
  · simp at hil; omega
  · refine (sd_perm _ _ _ (by simp)).trans ?_
    have : (xs ++ [x]).set xs.length x = xs ++ [x] := by simp
    rw [this]
    exact (List.perm_append_comm (l₁ := xs) (l₂ := [x]))

/-- during the way down -/
structure HoleU (xs : List Int) (p : Nat) : Prop where
  rest : ∀ i, 0 < i → i < xs.length → i ≠ p → (i - 1) / 2 ≠ p → xs.getD ((i - 1) / 2) 0 ≤ xs.getD i 0
  over : 0 < p → ∀ i, 0 < i → i < xs.length → (i - 1) / 2 = p → xs.getD ((p - 1) / 2) 0 ≤ xs.getD i 0
  up : 0 < p → xs.getD ((p - 1) / 2) 0 ≤ xs.getD p 0

theorem suLoop_spec (n : Nat) (x : Int) : ∀ (f : Nat) (xs : List Int) (p : Nat), xs.length = n → p < n → n - p ≤ f → HoleU xs p →
    ∃ ys q, suLoop xs n p f = (ys, q) ∧ ys.length = n ∧ q < n ∧ ¬ 2 * q + 1 < n ∧ HoleU ys q ∧ (ys.set q x).Perm (xs.set p x)
  | 0, xs, p, hl, hp, hf, H => by omega
  | f + 1, xs, p, hl, hp, hf, H => by
    by_cases hlt : 2 * p + 1 < n
    · let c := if 2 * p + 2 < n ∧ ¬ xs.getD (2 * p + 1) 0 < xs.getD (2 * p + 2) 0 then 2 * p + 2 else 2 * p + 1
      have hc : c = if 2 * p + 2 < n ∧ ¬ xs.getD (2 * p + 1) 0 < xs.getD (2 * p + 2) 0 then 2 * p + 2 else 2 * p + 1 := rfl
      rw [suLoop_step xs n p c hlt hc f]
      have hcn : c < n ∧ p < c ∧ (c - 1) / 2 = p := by rw [hc]; split <;> omega
      have hmin : ∀ i, 0 < i → i < n → (i - 1) / 2 = p → xs.getD c 0 ≤ xs.getD i 0 := by
        intro i hi hin hip
        have : i = 2 * p + 1 ∨ i = 2 * p + 2 := by omega
        rw [hc]
        rcases this with rfl | rfl
        · split <;> omega
        · split <;> omega
      clear_value c
      have HU : HoleU (xs.set p (xs.getD c 0)) c := by
        refine ⟨fun i hi hil hic hpc => ?_, fun _ i hi hil hpc => ?_, fun _ => ?_⟩
        · rw [List.length_set] at hil
          rw [getD_set, getD_set]
          by_cases h1 : p = i
          · subst h1
            rw [if_neg (c := p = (p - 1) / 2 ∧ _) (by omega), if_pos ⟨rfl, by omega⟩]
            exact H.over hi c (by omega) (by omega) hcn.2.2
          · rw [if_neg (c := p = i ∧ _) (by omega)]
            by_cases h2 : p = (i - 1) / 2
            · rw [if_pos ⟨h2, by omega⟩]
              exact hmin i hi (by omega) h2.symm
            · rw [if_neg (by omega)]
              exact H.rest i hi hil (Ne.symm h1) (Ne.symm h2)
        · rw [List.length_set] at hil
          rw [getD_set, getD_set, hcn.2.2, if_pos ⟨rfl, by omega⟩, if_neg (by omega)]
          have := H.rest i hi hil (by omega) (by omega)
          rw [hpc] at this
          exact this
        · rw [getD_set, getD_set, hcn.2.2, if_pos ⟨rfl, by omega⟩, if_neg (by omega)]
          exact Int.le_refl _
      obtain ⟨ys, q, h1, h2, h3, h4, h5, h6⟩ := suLoop_spec n x f (xs.set p (xs.getD c 0)) c (by simpa using hl) hcn.1 (by omega) HU
      exact ⟨ys, q, h1, h2, h3, h4, h5, h6.trans (swap_perm (by omega) (by omega) (by omega) x)⟩
    · rw [suLoop_end _ _ _ hlt]
      exact ⟨xs, p, rfl, hl, hp, hlt, H, .refl _⟩

theorem su_spec {ys : List Int} {z : Int} (h : IsH (ys ++ [z])) (hne : ys ≠ []) : IsH (su (ys.set 0 z)) ∧ (ys.getD 0 0 :: su (ys.set 0 z)).Perm (ys ++ [z]) := by
  have hpos : 0 < ys.length := List.length_pos_iff.mpr hne
  have hg : ∀ i, i < ys.length → (ys ++ [z]).getD i 0 = ys.getD i 0 := fun i hi => by
    rw [List.getD_eq_getElem?_getD, List.getElem?_append_left hi, List.getD_eq_getElem?_getD]
  have hx0 : (ys.set 0 z).getD 0 0 = z := by rw [getD_set, if_pos ⟨rfl, hpos⟩]
  obtain ⟨us, q, h1, h2, h3, h4, h5, h6⟩ := suLoop_spec ys.length z ys.length (ys.set 0 z) 0 (by simp) hpos (by omega) ⟨fun i hi hil hi0 hp => by
      rw [List.length_set] at hil
      rw [getD_set, getD_set, if_neg (by omega), if_neg (by omega)]
      have := h i hi (by simp; omega)
      rwa [hg _ hil, hg _ (by omega)] at this, fun q => absurd q (by omega), fun q => absurd q (by omega)⟩
  have e : su (ys.set 0 z) = sd (us.set q z) q z := by
    unfold su
    rw [List.length_set, h1, hx0]
  rw [e]
  refine ⟨sd_heap _ _ _ (by simp; omega) ⟨fun i hi hil hiq hpq => ?_, fun i hi hil hpq => ?_, fun _ i hi hil hpq => ?_⟩, ?_⟩
  · rw [List.length_set] at hil
    rw [getD_set, getD_set, if_neg (by omega), if_neg (by omega)]
    exact h5.rest i hi hil hiq hpq
  · rw [List.length_set] at hil; omega
  · rw [List.length_set] at hil; omega
  · have p1 := (sd_perm (us.set q z) q z (by simp; omega))
    rw [List.set_set] at p1
    have p2 := p1.trans h6
    rw [List.set_set] at p2
    refine (p2.cons _).trans ?_
    refine ((setI_perm hpos z).cons _).trans (.trans (.swap ..) ?_)
    refine ((self_perm hpos).symm.cons z).trans ?_
    exact (List.perm_append_comm (l₁ := [z]) (l₂ := ys))

/-- sorted -/
noncomputable def srt (l : List Int) : List Int := l.mergeSort (fun a b => decide (a ≤ b))
theorem srt_perm (l : List Int) : (srt l).Perm l := List.mergeSort_perm ..
theorem srt_sorted (l : List Int) : (srt l).Pairwise (· ≤ ·) := by
  have := List.pairwise_mergeSort (le := fun a b : Int => decide (a ≤ b)) (by intro a b c; simp; omega) (by intro a b; simp; omega) l
  exact this.imp fun h => by simpa using h
theorem sorted_unique : ∀ {a b : List Int}, a.Pairwise (· ≤ ·) → b.Pairwise (· ≤ ·) → a.Perm b → a = b
  | [], b, _, _, h => by rw [List.nil_perm.mp h]
  | x :: a, [], _, _, h => absurd h (by simp)
  | x :: a, y :: b, ha, hb, h => by
    have ha' := List.pairwise_cons.mp ha
    have hb' := List.pairwise_cons.mp hb
    have e : x = y := by
      have h1 : x ∈ y :: b := h.mem_iff.mp (.head _)
      have h2 : y ∈ x :: a := h.mem_iff.mpr (.head _)
      rcases List.mem_cons.mp h1 with e | h1
      · exact e
      · rcases List.mem_cons.mp h2 with e | h2
        · exact e.symm
        · have := ha'.1 y h2
          have := hb'.1 x h1
          omega
    subst e
    rw [sorted_unique ha'.2 hb'.2 (List.Perm.cons_inv h)]
theorem srt_eq {a l : List Int} (h1 : a.Perm l) (h2 : a.Pairwise (· ≤ ·)) : a = srt l := sorted_unique h2 (srt_sorted l) (h1.trans (srt_perm l).symm)
theorem srt_congr {a b : List Int} (h : a.Perm b) : srt a = srt b := srt_eq ((srt_perm a).trans h) (srt_sorted a)
theorem srt_srt (l : List Int) : srt (srt l) = srt l := srt_congr (srt_perm l)
theorem srt_length (l : List Int) : (srt l).length = l.length := (srt_perm l).length_eq

/-- heappop's road: root out, the rest stays a heap -/
theorem heap_pop {hs : List Int} (h : IsH hs) {x : Int} {r : List Int} (hs' : srt hs = x :: r) : hs.getD 0 0 = x := by
  have hmem : ∀ y ∈ hs, hs.getD 0 0 ≤ y := fun y hy => by
    obtain ⟨i, hi, rfl⟩ := List.getElem_of_mem hy
    have := h.root i hi
    have e : hs.getD i 0 = hs[i] := by rw [List.getD_eq_getElem?_getD, List.getElem?_eq_getElem hi]; rfl
    rwa [e] at this
  have hlen : 0 < hs.length := by rw [← srt_length, hs']; simp
  have h1 : hs.getD 0 0 ∈ srt hs := (srt_perm hs).mem_iff.mpr (by
    rw [List.getD_eq_getElem?_getD, List.getElem?_eq_getElem hlen]; exact List.getElem_mem _)
  have h2 : x ∈ hs := (srt_perm hs).mem_iff.mp (by rw [hs']; exact .head _)
  rw [hs'] at h1
  have hsr := srt_sorted hs
  rw [hs'] at hsr
  rcases List.mem_cons.mp h1 with e | h1
  · exact e
  · have a := (List.pairwise_cons.mp hsr).1 _ h1
    have b := hmem x h2
    omega
end Mine
end
-- MP3
section
namespace Mine
noncomputable def callsOf (gs ws : List Int) (turn : Int) (t : Nat) : List Int := ((gs.zip ws).filter fun p => decide ((p.2 - turn).fmod 16 = t)).map (·.1)
noncomputable def cssOf (gs ws : List Int) (turn : Int) : List (List Int) := (List.range 16).map (callsOf gs ws turn)
theorem cssOf_length (gs ws : List Int) (turn : Int) : (cssOf gs ws turn).length = 16 := by simp [cssOf]
theorem cssOf_get {gs ws : List Int} {turn : Int} {t : Nat} (h : t < 16) (h' : t < (cssOf gs ws turn).length) : (cssOf gs ws turn)[t] = callsOf gs ws turn t := by simp [cssOf]
theorem slot16 (w turn : Int) : ∃ j : Nat, j < 16 ∧ (w - turn).fmod 16 = j := by
  rw [fmod16]
  exact ⟨((w - turn) % 16).toNat, by omega, by omega⟩
theorem callsOf_snoc {gs ws : List Int} (hl : gs.length = ws.length) (turn : Int) (x w : Int) (t : Nat) :
    callsOf (gs ++ [x]) (ws ++ [w]) turn t = callsOf gs ws turn t ++ (if (w - turn).fmod 16 = t then [x] else []) := by
  unfold callsOf
  rw [List.zip_append hl, List.filter_append, List.map_append]
  congr 1
  by_cases h : (w - turn).fmod 16 = t <;> simp [h]
theorem cssOf_snoc {gs ws : List Int} (hl : gs.length = ws.length) (turn : Int) (x w : Int) {j : Nat} (hj : j < 16) (he : (w - turn).fmod 16 = j) :
    cssOf (gs ++ [x]) (ws ++ [w]) turn = (cssOf gs ws turn).set j (callsOf gs ws turn j ++ [x]) := by
  apply List.ext_getElem?
  intro k
  rw [List.getElem?_set]
  by_cases hk : k < 16
  · have e1 : (cssOf (gs ++ [x]) (ws ++ [w]) turn)[k]? = some (callsOf (gs ++ [x]) (ws ++ [w]) turn k) := by simp [cssOf, hk]
    rw [e1, callsOf_snoc hl, he]
    by_cases h : j = k
    · subst h; simp [cssOf_length, hj]
    · rw [if_neg (by omega), if_neg h, List.append_nil]; simp [cssOf, hk]
  · rw [List.getElem?_eq_none (by rw [cssOf_length]; omega)]
    rw [if_neg (by omega), List.getElem?_eq_none (by rw [cssOf_length]; omega)]
theorem cssOf_nil (turn : Int) : cssOf [] [] turn = List.replicate 16 [] := rfl

/-- what waits, step by step; and who is over whom -/
noncomputable def runW (C : Nat → List Int) : Nat → Nat → List Int → List (List Int)
  | 0, _, _ => []
  | f + 1, t, S => match S with
    | [] => []
    | x :: r => (x :: r) :: runW C f (t + 1) (srt (r ++ C t))
noncomputable def runO (C : Nat → List Int) : Nat → Nat → List Int → List (Int × Int)
  | 0, _, _ => []
  | f + 1, t, S => match S with
    | [] => []
    | x :: r => (C t).map (fun g => (g, x)) ++ runO C f (t + 1) (srt (r ++ C t))
noncomputable def catC (C : Nat → List Int) : Nat → List Int
  | 0 => []
  | t + 1 => catC C t ++ C t

theorem catC_perm {gs ws : List Int} (hl : gs.length = ws.length) (turn : Int) : (catC (callsOf gs ws turn) 16).Perm gs := by
  have key : ∀ (ps : List (Int × Int)) (n : Nat), (catC (fun t => (ps.filter fun p => decide ((p.2 - turn).fmod 16 = t)).map (·.1)) n).Perm ((ps.filter fun p => decide ((p.2 - turn).fmod 16 < n)).map (·.1)) := by
    intro ps n
    induction n with
    | zero =>
      have : (ps.filter fun p => decide ((p.2 - turn).fmod 16 < ((0 : Nat) : Int))) = [] := by
        apply List.filter_eq_nil_iff.mpr
        intro p _
        obtain ⟨j, _, e⟩ := slot16 p.2 turn
        simp [e]
      rw [this]; exact .refl _
    | succ n ih =>
      show (catC _ n ++ _).Perm _
      refine (ih.append_right _).trans ?_
      rw [← List.map_append]
      refine List.Perm.map _ ?_
      clear ih
      induction ps with
      | nil => exact .refl _
      | cons p ps ih2 =>
        rw [List.filter_cons, List.filter_cons, List.filter_cons]
        by_cases h1 : (p.2 - turn).fmod 16 < n
        · have h2 : ¬ (p.2 - turn).fmod 16 = n := by omega
          have h3 : (p.2 - turn).fmod 16 < ((n + 1 : Nat) : Int) := by omega
          simp only [h1, h2, h3, decide_true, decide_false, if_true, Bool.false_eq_true, if_false]
          exact ih2.cons p
        · by_cases h2 : (p.2 - turn).fmod 16 = n
          · have h3 : (p.2 - turn).fmod 16 < ((n + 1 : Nat) : Int) := by omega
            rw [decide_eq_false h1, decide_eq_true h2, decide_eq_true h3, if_neg Bool.false_ne_true, if_pos rfl, if_pos rfl]
            exact List.perm_middle.trans (ih2.cons p)
          · have h3 : ¬ (p.2 - turn).fmod 16 < ((n + 1 : Nat) : Int) := by omega
            simp only [h1, h2, h3, decide_false, Bool.false_eq_true, if_false]
            exact ih2
  refine (key (gs.zip ws) 16).trans ?_
  have : ((gs.zip ws).filter fun p => decide ((p.2 - turn).fmod 16 < ((16 : Nat) : Int))) = gs.zip ws := by
    apply List.filter_eq_self.mpr
    intro p _
    obtain ⟨j, hj, e⟩ := slot16 p.2 turn
    simp [e]; omega
  rw [this, List.map_fst_zip (by omega)]
theorem catC_mono {C : Nat → List Int} {t n : Nat} (h : t ≤ n) : ∃ r, catC C n = catC C t ++ r := by
  induction n with
  | zero => obtain rfl : t = 0 := by omega
            exact ⟨[], by simp⟩
  | succ n ih =>
    by_cases e : t = n + 1
    · subst e; exact ⟨[], by simp⟩
    · obtain ⟨r, hr⟩ := ih (by omega)
      exact ⟨r ++ C n, by rw [catC, hr, List.append_assoc]⟩

theorem catC_length_le {C : Nat → List Int} {t n : Nat} (h : t ≤ n) : (catC C t).length ≤ (catC C n).length := by
  obtain ⟨r, hr⟩ := catC_mono (C := C) h
  rw [hr]; simp
theorem runW_cons (C : Nat → List Int) (f t : Nat) (x : Int) (r : List Int) : runW C (f + 1) t (x :: r) = (x :: r) :: runW C f (t + 1) (srt (r ++ C t)) := rfl
theorem runO_cons (C : Nat → List Int) (f t : Nat) (x : Int) (r : List Int) : runO C (f + 1) t (x :: r) = (C t).map (fun g => (g, x)) ++ runO C f (t + 1) (srt (r ++ C t)) := rfl
theorem runW_nil (C : Nat → List Int) (f t : Nat) : runW C f t [] = [] := by cases f <;> rfl
theorem runO_nil (C : Nat → List Int) (f t : Nat) : runO C f t [] = [] := by cases f <;> rfl
end Mine
end
-- MS
section
open PySem PySem.W PyProof.Rows
set_option maxRecDepth 100000
namespace Mine

theorem isLI_get {xs : List Int} {p : Nat} (hp : p < xs.length) : (xs.map isI)[p]? = some (isI (xs.getD p 0)) := by
  simp [hp]
theorem map_set_isI (xs : List Int) (p : Nat) (x : Int) : (xs.map isI).set p (isI x) = (xs.set p x).map isI := (List.map_set ..).symm

theorem set_here {objs : List (Addr × OP)} {i : Nat} {p q : Addr × OP} (h : objs[i]? = some p) : (objs.set i q)[i]? = some q := by
  have := (List.getElem?_eq_some_iff.mp h).1
  simp [this]
theorem set_self {objs : List (Addr × OP)} {i : Nat} {p : Addr × OP} (h : objs[i]? = some p) : objs.set i p = objs := by
  apply List.ext_getElem?
  intro j
  rw [List.getElem?_set]
  split
  · rename_i e; subst e
    have := (List.getElem?_eq_some_iff.mp h).1
    rw [if_pos this, h]
  · rfl

section
variable {prog : Program} {w : World} {A : Around} {E : Value → Shared → Prop} {s : Shared}
variable {g : Heap} {G : Array GenState} {O : OsState} {L : Addr} {m : List (Str × VP)} {objs : List (Addr × OP)}

theorem siftdown_call {i : Nat} {l : Addr} {xs : List Int} {p : Nat} {t0 t1 : Tok} {Q : Value → Shared → Prop} (I : St g G O L m objs s) (hW : W w g) (hroom : A.depth < 900)
    (hi : objs[i]? = some (l, isLI xs)) (hp : p < xs.length) (hlen : xs.length ≤ 100)
    (h : ∀ s', St g G O L m (objs.set i (l, isLI (sd xs p (xs.getD p 0)))) s' → Q .none s') :
    wpAny (model prog w) A (call (.ref 59) [.ref l, .int 0 t0, .int p t1]) Q E s := by
  refine call_fn (bs := [("heap", .ref l), ("startpos", .int 0 t0), ("pos", .int p t1)]) I hW (by unfold recursionLimit; omega) rfl rfl rfl rfl (BindsTo.of_eq rfl) rfl rfl ?_
  intro g' L' s' env HE hW' I' E'
  refine post_gen fun Q0 hQ0 => ?_
  dsimp only at HE
  have I1 := I'.loc (m' := [("heap", isV (.ref l)), ("startpos", isI 0), ("pos", isI p)]) ⟨⟨_, rfl, fun _ x => x⟩, ⟨_, rfl, fun _ x => ⟨_, x⟩⟩, ⟨_, rfl, fun _ x => ⟨_, x⟩⟩, trivial⟩
  clear I'
  refine wpAny_execs_cons (wpAny_Assign_Name (Subscript_ ?_))
  refine ldV HE I1 rfl ?_
  refine ldI HE I1 rfl (fun t2 => ?_)
  refine subscr I1 hi (by omega) (isLI_get (by simpa using hp)) ?_
  intro v hv
  refine sto HE I1 hv ?_
  intro s2 I2
  clear I1
  dsimp only
  rw [show (p : Int).toNat = p from rfl] at I2
  generalize hx : xs.getD p 0 = x at I2 h
  refine wpAny_execs_cons (wpAny_While ?_)
  refine codeAny_mono (R := fun r s4 => r = .ok .next ∧ ∃ (q : Nat) (zs : List Int) (m4 : List (Str × VP)), q < zs.length ∧ zs.length = xs.length ∧ zs.set q x = sd xs p x ∧
    St g' G O L' m4 (objs.set i (l, isLI zs)) s4 ∧ m4.lookup (Str.ofString "newitem") = some (isI x) ∧ m4.lookup (Str.ofString "heap") = some (isV (.ref l)) ∧ m4.lookup (Str.ofString "pos") = some (isI q)) ?loop ?aft
  case aft =>
    rintro r s4 ⟨rfl, q, zs, m4, hq, hzl, hz, I4, e1, e2, e3⟩
    dsimp only
    refine wpAny_execs_cons (wpAny_Assign_Subscript ?_)
    refine ldI HE I4 e1 (fun t3 => ?_)
    refine ldV HE I4 e2 ?_
    refine ldI HE I4 e3 (fun t4 => ?_)
    refine setI I4 (set_here hi) (by omega) (by simpa using hq) (P := isI x) ⟨t3, rfl⟩ ?_
    intro s5 I5
    dsimp only
    refine wpAny_execs_nil (hQ0 _ _ ⟨_, _, I5, fun J => ?_⟩)
    rw [List.set_set, map_set_isI, show ((q : Int)).toNat = q from rfl, hz] at J
    exact h _ J
  refine whileQ (I := fun k s => ∃ ys, k < ys.length ∧ ys.length = xs.length ∧ sd ys k x = sd xs p x ∧
    St g' G O L' [("newitem", isI x), ("heap", isV (.ref l)), ("startpos", isI 0), ("pos", isI k)] (objs.set i (l, isLI ys)) s) ?_ p
    ⟨xs, hp, rfl, rfl, by rw [set_self hi]; exact I2⟩
  intro k s3 hI E1 B hB hBb hBr T1 hT hF
  obtain ⟨ys, hk, hyl, hsd, I3⟩ := hI
  have hi3 := set_here (q := (l, isLI ys)) hi
  refine wpAny_isTrue_Compare1 ?_
  refine ldI HE I3 rfl (fun t5 => ?_)
  refine ldI HE I3 rfl (fun t6 => ?_)
  refine tGt ?_ ?_
  · intro hgt
    refine hT _ ?_
    refine wpAny_execs_cons (wpAny_Assign_Name (wpAny_BinOp (wpAny_BinOp ?_)))
    refine ldI HE I3 rfl (fun t7 => ?_)
    refine cI I3 ?_
    intro t8 s4 I4
    refine oSub I4 ?_
    intro t9 s5 I5
    refine cI I5 ?_
    intro t10 s6 I6
    refine oShr I6 (by omega) ?_
    intro t11 s7 I7
    have hpp : ((k : Int) - 1) / 2 = (((k - 1) / 2 : Nat) : Int) := by omega
    rw [hpp]
    refine sto HE I7 (P := isI _) ⟨_, rfl⟩ ?_
    intro s8 I8
    clear I4 I5 I6 I7
    dsimp only
    refine wpAny_execs_cons (wpAny_Assign_Name (Subscript_ ?_))
    refine ldV HE I8 rfl ?_
    refine ldI HE I8 rfl (fun t12 => ?_)
    refine subscrI I8 hi3 (by omega) (isLI_get (by show (k - 1) / 2 < _; omega)) (fun t13 => ?_)
    refine sto HE I8 (P := isI _) ⟨_, rfl⟩ ?_
    intro s9 I9
    clear I8
    dsimp only
    refine wpAny_execs_cons (wpAny_If (wpAny_isTrue_Compare1 ?_))
    refine ldI HE I9 rfl (fun t14 => ?_)
    refine ldI HE I9 rfl (fun t15 => ?_)
    have e1 : (((k - 1) / 2 : Nat) : Int).toNat = (k - 1) / 2 := rfl
    rw [e1] at I9 ⊢
    refine tLt ?_ ?_
    · intro hlt
      refine ifT ?_
      refine wpAny_execs_cons (wpAny_Assign_Subscript ?_)
      refine ldI HE I9 rfl (fun t16 => ?_)
      refine ldV HE I9 rfl ?_
      refine ldI HE I9 rfl (fun t17 => ?_)
      refine setI I9 hi3 (by omega) (by simpa using hk) (P := isI _) ⟨t16, rfl⟩ ?_
      intro s10 I10
      dsimp only
      refine wpAny_execs_cons (wpAny_Assign_Name ?_)
      refine ldI HE I10 rfl (fun t18 => ?_)
      refine sto HE I10 (P := isI _) ⟨_, rfl⟩ ?_
      intro s11 I11
      dsimp only
      refine wpAny_execs_cons (wpAny_Continue ?_)
      dsimp only
      rw [List.set_set, map_set_isI, show (k : Int).toNat = k from rfl] at I11
      refine hB _ _ (.inr rfl) ⟨(k - 1) / 2, by omega, _, ?_, ?_, ?_, I11.loc ⟨⟨_, rfl, fun _ x => x⟩, ⟨_, rfl, fun _ x => x⟩, ⟨_, rfl, fun _ x => x⟩, ⟨_, rfl, fun _ x => x⟩, trivial⟩⟩
      · rw [List.length_set]; omega
      · rw [List.length_set]; exact hyl
      · rw [← hsd]
        conv => rhs; unfold sd
        rw [dif_pos (by omega), if_pos hlt]
    · intro hnl
      refine ifF ?_
      refine wpAny_execs_nil ?_
      dsimp only
      refine wpAny_execs_cons (wpAny_Break ?_)
      refine hBb _ ⟨rfl, k, ys, _, hk, hyl, ?_, I9, rfl, rfl, rfl⟩
      rw [← hsd]
      conv => rhs; unfold sd
      rw [dif_pos (by omega), if_neg hnl]
  · intro hng
    refine hF _ ?_
    refine wpAny_execs_nil ?_
    refine ⟨rfl, k, ys, _, hk, hyl, ?_, I3, rfl, rfl, rfl⟩
    rw [← hsd]
    conv => rhs; unfold sd
    rw [dif_neg (by omega)]
end
end Mine
end
-- MF
section
open PySem PySem.W PyProof.Rows
set_option maxRecDepth 100000
namespace Mine

theorem fit_ints : ∀ {ns : List Int} {vs : List Value}, Fit (ns.map isI) vs → IntsAre vs ns
  | [], [], _ => .nil
  | [], v :: vs, h => by have := h.1; simp at this
  | n :: ns, [], h => by have := h.1; simp at this
  | n :: ns, v :: vs, h => by
    obtain ⟨t, rfl⟩ : isI n v := h.2 0 (isI n) v rfl rfl
    refine .cons _ _ (fit_ints ⟨by have := h.1; simp at this; simpa using this, fun i P v hi hv => h.2 (i + 1) P v hi hv⟩)
theorem ints_fit : ∀ {ns : List Int} {vs : List Value}, IntsAre vs ns → Fit (ns.map isI) vs
  | [], [], _ => .nil
  | n :: ns, v :: vs, h => by
    cases h with
    | cons _ _ h => exact .cons ⟨_, rfl⟩ (ints_fit h)

section
variable {prog : Program} {w : World} {A : Around} {E : Value → Shared → Prop} {s : Shared}
variable {g : Heap} {G : Array GenState} {O : OsState} {L : Addr} {m : List (Str × VP)} {objs : List (Addr × OP)} {env : Env} {names : List (Str × NameKind)} {cs : List (Str × Addr)}

theorem St.ints (I : St g G O L m objs s) {i : Nat} {l : Addr} {ns : List Int} (hi : objs[i]? = some (l, isLI ns)) : ∃ vs n, s.heap.get? l = some (lstO vs n) ∧ IntsAre vs ns := by
  obtain ⟨vs, n, h1, h2⟩ := I.list hi
  exact ⟨vs, n, h1, fit_ints h2⟩

theorem any_eq (ns : List Int) (k : Int) : (ns.any (· == k)) = decide (k ∈ ns) := by
  rw [Bool.eq_iff_iff]; simp
theorem tIn {i : Nat} {l : Addr} {ns : List Int} {k : Int} {t : Tok} {Q : Bool → Shared → Prop} (I : St g G O L m objs s) (hi : objs[i]? = some (l, isLI ns)) (h1 : k ∈ ns → Q true s) (h2 : k ∉ ns → Q false s) :
    wpAny (model prog w) A (compareOp .In (.int k t) (.ref l)) (fun c s₃ => wpAny (model prog w) A (truthy c) Q E s₃) E s := by
  obtain ⟨vs, n, hl, hf⟩ := I.ints hi
  refine in_list_ints (isList_of hl) hf (wpAny_truthy_bool ?_)
  by_cases hk : k ∈ ns
  · rw [any_eq, decide_eq_true hk]; exact h1 hk
  · rw [any_eq, decide_eq_false hk]; exact h2 hk
theorem tNotIn {i : Nat} {l : Addr} {ns : List Int} {k : Int} {t : Tok} {Q : Bool → Shared → Prop} (I : St g G O L m objs s) (hi : objs[i]? = some (l, isLI ns)) (h1 : k ∈ ns → Q false s) (h2 : k ∉ ns → Q true s) :
    wpAny (model prog w) A (compareOp .NotIn (.int k t) (.ref l)) (fun c s₃ => wpAny (model prog w) A (truthy c) Q E s₃) E s := by
  obtain ⟨vs, n, hl, hf⟩ := I.ints hi
  refine notin_list_ints (isList_of hl) hf (wpAny_truthy_bool ?_)
  by_cases hk : k ∈ ns
  · rw [any_eq, decide_eq_true hk]; exact h1 hk
  · rw [any_eq, decide_eq_false hk]; exact h2 hk

theorem set_perm {objs : List (Addr × OP)} {i : Nat} {p : Addr × OP} (hi : objs[i]? = some p) (q : Addr × OP) : (objs.set i q).Perm (q :: objs.eraseIdx i) := by
  induction objs generalizing i with
  | nil => simp at hi
  | cons x r ih =>
    cases i with
    | zero => exact .refl _
    | succ i =>
      rw [List.set_cons_succ, List.eraseIdx_cons_succ]
      exact ((ih (by simpa using hi)).cons x).trans (.swap ..)
/-- only one object of the ledger is looked at -/
theorem St.focus (I : St g G O L m objs s) {i : Nat} {p : Addr × OP} (hi : objs[i]? = some p) : ∃ g1, St g1 G O L m [p] s ∧ (∀ b o, g.get? b = some o → g1.get? b = some o) ∧
    ∀ m' p' fr s', St g1 G O L m' (p' :: fr) s' → St g G O L m' (objs.set i p' ++ fr) s' := by
  have I1 : St g G O L m ([p] ++ objs.eraseIdx i) s := I.perm (by
    have := set_perm hi p
    rw [set_self hi] at this
    exact this.symm)
  obtain ⟨g1, h1, h2, h3⟩ := I1.out
  refine ⟨g1, h1, h2, fun m' p' fr s' J => (h3 m' _ s' J).perm ?_⟩
  refine ((set_perm hi p').append_right fr).trans ?_
  show (p' :: (objs.eraseIdx i ++ fr)).Perm (p' :: (fr ++ objs.eraseIdx i))
  exact (List.perm_append_comm ..).cons p'
theorem St.focus2 (I : St g G O L m objs s) {i j : Nat} {p q : Addr × OP} (hi : objs[i]? = some p) (hj : objs[j]? = some q) (ne : i ≠ j) : ∃ g1, St g1 G O L m [p, q] s ∧ (∀ b o, g.get? b = some o → g1.get? b = some o) ∧
    ∀ m' p' q' fr s', St g1 G O L m' (p' :: q' :: fr) s' → St g G O L m' ((objs.set i p').set j q' ++ fr) s' := by
  obtain ⟨j', hj'⟩ : ∃ j', (objs.eraseIdx i)[j']? = some q ∧ ∀ p' q', ((objs.set i p').set j q').Perm (p' :: (objs.eraseIdx i).set j' q') := by
    clear I
    induction objs generalizing i j with
    | nil => simp at hi
    | cons x r ih =>
      cases i with
      | zero =>
        cases j with
        | zero => exact absurd rfl ne
        | succ j => exact ⟨j, by simpa using hj, fun p' q' => .refl _⟩
      | succ i =>
        cases j with
        | zero => exact ⟨0, by simpa using hj, fun p' q' => by
            simp only [List.set_cons_succ, List.set_cons_zero, List.eraseIdx_cons_succ]
            exact ((set_perm (by simpa using hi) p').cons q').trans (.swap ..)⟩
        | succ j =>
          obtain ⟨j', h1, h2⟩ := ih (i := i) (j := j) (by simpa using hi) (by simpa using hj) (by omega)
          refine ⟨j' + 1, by simpa using h1, fun p' q' => ?_⟩
          simp only [List.set_cons_succ, List.eraseIdx_cons_succ]
          exact ((h2 p' q').cons x).trans (.swap ..)
  obtain ⟨g1, h1, h2, h3⟩ := I.focus hi
  have I1 : St g G O L m ([p, q] ++ (objs.eraseIdx i).eraseIdx j') s := I.perm (by
    have a := set_perm hi p
    rw [set_self hi] at a
    have b := set_perm hj'.1 q
    rw [set_self hj'.1] at b
    exact (a.trans (b.cons p)).symm)
  obtain ⟨g1, h1, h2, h3⟩ := I1.out
  refine ⟨g1, h1, h2, fun m' p' q' fr s' J => (h3 m' _ s' J).perm ?_⟩
  refine ((hj'.2 p' q').append_right fr).trans ?_
  refine (((set_perm hj'.1 q').cons p').append_right fr).trans ?_
  show (p' :: q' :: ((objs.eraseIdx i).eraseIdx j' ++ fr)).Perm (p' :: q' :: (fr ++ (objs.eraseIdx i).eraseIdx j'))
  exact ((List.perm_append_comm ..).cons q').cons p'

theorem lcomp {elt iter : Expr} {x : Str} {px : Pos} {ifs : List Expr} {scope : Scope} {pos : Pos} {cl : List (Str × Addr)} {Q : Value → Shared → Prop} (HE : EnvIs env L names cs) (hcl : closL cs scope.names [] = some cl)
    (h : wpAny (model prog w) A (eval iter env) (fun xv s₁ => wpAny (model prog w) A (pyIter xv) (fun it s₂ => wpAny (model prog w) A (newList []) (fun acc s₃ =>
      wpAny (model prog w) A (newFunctionEnv scope env.globals cl [] env.qual none .none (some env)) (fun cenv s₄ =>
        codeAny (model prog w) A (.compStart (.ListComp elt [⟨.Name x px, iter, ifs, 0⟩] scope pos) 0 it acc { cenv with scope := relabel scope env }) (compPost (model prog w) A E none Q acc cenv.locals) s₄) E s₃) E s₂) E s₁) E s)
    (hs : ∀ x, foldedSetIterable iter env x = pure x := by intro _; rfl) (hk : scope.kind = .function := by rfl) (hn : (scope.names.all fun x => x.2 != .local || scope.names.lookup x.1 == some .local) = true := by rfl) :
    wpAny (model prog w) A (eval (.ListComp elt [⟨.Name x px, iter, ifs, 0⟩] scope pos) env) Q E s := by
  rw [eval_ListComp]
  refine wpAny_comprehension_free (use := none) rfl hs (closure_eq HE hcl) hk (fun y hy e => ?_) h
  have := List.all_eq_true.mp hn y hy
  rw [e] at this
  simpa using this
theorem swaps_true {elt : Expr} {gens : List Comprehension} {scope : Scope} {pos py : Pos} {y : Str} {line : Nat} (HE : EnvIs env L names cs) (hy : names.lookup y = some .local) (hl : (py.line == pos.line) = true)
    (ho : (scope.names.any fun x => x.1 == y && (x.2 == .local || x.2 == .cell)) = false) : swapsWith (.ListComp elt gens scope pos) (some (.Name y py)) line env = pure true := by
  have hk : env.kindOf y = some .local := by unfold Env.kindOf; rw [HE.names]; exact hy
  show pure (env.blockKind == .function && env.kindOf y == some .local && py.line == (Expr.ListComp elt gens scope pos).pos.line && !(scope.names.any fun x => x.1 == y && (x.2 == .local || x.2 == .cell))) = _
  have hb : env.blockKind = .function := by unfold Env.blockKind; rw [HE.kind]; rfl
  have hl' : (py.line == (Expr.ListComp elt gens scope pos).pos.line) = true := hl
  rw [hk, hb, hl', ho]; rfl
theorem lcompU {elt iter : Expr} {x y : Str} {px py : Pos} {ifs : List Expr} {scope : Scope} {pos spos : Pos} {cl : List (Str × Addr)} {Q : Flow → Shared → Prop} (HE : EnvIs env L names cs) (hcl : closL cs scope.names [] = some cl)
    (h : wpAny (model prog w) A (eval iter env) (fun xv s₁ => wpAny (model prog w) A (pyIter xv) (fun it s₂ => wpAny (model prog w) A (newList []) (fun acc s₃ =>
      wpAny (model prog w) A (newFunctionEnv scope env.globals cl [] env.qual none .none (some env)) (fun cenv s₄ =>
        codeAny (model prog w) A (.compStart (.ListComp elt [⟨.Name x px, iter, ifs, 0⟩] scope pos) 0 it acc { cenv with scope := relabel scope env }) (compPost (model prog w) A E (some (assign (.Name y py) env)) (fun _ s' => Q .next s') acc cenv.locals) s₄) E s₃) E s₂) E s₁) E s)
    (hs : ∀ x, foldedSetIterable iter env x = pure x := by intro _; rfl) (hk : scope.kind = .function := by rfl) (hn : (scope.names.all fun x => x.2 != .local || scope.names.lookup x.1 == some .local) = true := by rfl)
    (hy : names.lookup y = some .local := by rfl) (hl : (py.line == pos.line) = true := by rfl) (ho : (scope.names.any fun x => x.1 == y && (x.2 == .local || x.2 == .cell)) = false := by rfl) :
    wpAny (model prog w) A (exec (.Assign [.Name y py] (.ListComp elt [⟨.Name x px, iter, ifs, 0⟩] scope pos) spos) env) Q E s := by
  rw [exec_Assign_Name_used _ _ _ _ (swaps_true HE hy hl ho)]
  refine wpAny_bind (wpAny_standAt (wpAny_bind ?_))
  show wpAny _ A (do let _ ← comprehension (.ListComp elt [⟨.Name x px, iter, ifs, 0⟩] scope pos) scope env _ (newList []) false (eval iter env) (some (assign (.Name y py) env))) _ _ s
  refine wpAny_bind (wpAny_mono (wpAny_comprehension_free (use := some (assign (.Name y py) env)) (Q := fun _ s' => Q .next s') rfl hs (closure_eq HE hcl) hk (fun y hy e => ?_) h) (fun _ s' hq => wpAny_pure (wpAny_pure hq)) fun _ _ e => e)
  have := List.all_eq_true.mp hn y hy
  rw [e] at this
  simpa using this

noncomputable def isRng (a b c : Int) : OP := fun o => ∃ t u v, o = { cls := .type "range", data := .fields #[.int a t, .int b u, .int c v] }
theorem range1 {n : Int} {t : Tok} {Q : Value → Shared → Prop} (I : St g G O L m objs s) (h : ∀ a s', St g G O L m (objs ++ [(a, isRng 0 n 1)]) s' → Q (.ref a) s') : wpAny (model prog w) A (call (.type "range") [.int n t]) Q E s :=
  call_range_1 (h _ _ (I.push rfl ⟨_, _, _, rfl⟩ rfl rfl rfl))
theorem range3 {x y z : Int} {t u v : Tok} {Q : Value → Shared → Prop} (I : St g G O L m objs s) (hz : z ≠ 0) (hp : Builtin.divisionGoesByPylong (y - x) z = false) (h : ∀ a s', St g G O L m (objs ++ [(a, isRng x y z)]) s' → Q (.ref a) s') :
    wpAny (model prog w) A (call (.type "range") [.int x t, .int y u, .int z v]) Q E s :=
  call_range_3 hz (h _ _ (I.push rfl ⟨_, _, _, rfl⟩ rfl rfl rfl)) (.inl hp)
theorem iterR {i : Nat} {r : Addr} {a b c : Int} {Q : Value → Shared → Prop} (I : St g G O L m objs s) (hi : objs[i]? = some (r, isRng a b c)) (hsm : Builtin.Range.small a b c = true)
    (h : ∀ it s', St g G O L m (objs ++ [(it, isRit a (Builtin.Range.rangeSize a b c) c)]) s' → Q (.ref it) s') : wpAny (model prog w) A (pyIter (.ref r)) Q E s := by
  obtain ⟨o, h1, t, u, v, rfl⟩ := I.obj hi
  exact wpAny_pyIter_range h1 hsm (h _ _ (I.push rfl rfl rfl rfl rfl))
theorem iterRn {i : Nat} {r : Addr} {a b c : Int} (n : Nat) {Q : Value → Shared → Prop} (I : St g G O L m objs s) (hi : objs[i]? = some (r, isRng a b c)) (hsm : Builtin.Range.small a b c = true) (hn : Builtin.Range.rangeSize a b c = n)
    (h : ∀ it s', St g G O L m (objs ++ [(it, isRit (a + ((0 : Nat) : Int) * c) ((n : Int) - ((0 : Nat) : Int)) c)]) s' → Q (.ref it) s') : wpAny (model prog w) A (pyIter (.ref r)) Q E s := by
  refine iterR I hi hsm fun it s' I' => h it s' ?_
  rw [hn] at I'
  rw [show a + ((0 : Nat) : Int) * c = a by simp, show (n : Int) - ((0 : Nat) : Int) = n by simp]
  exact I'
end
end Mine
end
-- MD
section
open PySem PySem.W PyProof.Rows
set_option maxRecDepth 100000
namespace Mine

noncomputable def isD (prog : Program) (w : World) (ps : List (Int × VP)) : OP := fun o => ∃ kvs : List (Int × Value), (∃ es ep, o.ExactDict ∧ o.data = .dict es ep ∧ PySem.KeysOf (intKind prog w) es ∧ Pairs (intKind prog w) es.toList kvs ∧ (kvs.map (·.1)).Nodup) ∧
  kvs.map (·.1) = ps.map (·.1) ∧ Fit (ps.map (·.2)) (kvs.map (·.2))

section
variable {prog : Program} {w : World} {A : Around} {E : Value → Shared → Prop} {s : Shared}
variable {g : Heap} {G : Array GenState} {O : OsState} {L : Addr} {m : List (Str × VP)} {objs : List (Addr × OP)} {env : Env} {names : List (Str × NameKind)} {cs : List (Str × Addr)}

theorem St.notSys (I : St g G O L m objs s) (hW : W w g) {i : Nat} {d : Addr} {P : OP} (hi : objs[i]? = some (d, P)) : (d == sysModules) = false := by
  simp only [beq_eq_false_iff_ne, ne_eq]
  rintro rfl
  obtain ⟨o, e⟩ := hW.sm
  have := (I.led _ (List.mem_of_getElem? hi)).2.2
  rw [e] at this; cases this

theorem St.dict (I : St g G O L m objs s) {i : Nat} {d : Addr} {ps : List (Int × VP)} (hi : objs[i]? = some (d, isD prog w ps)) : ∃ kvs, s.heap.DictOf (intKind prog w) d kvs ∧ kvs.map (·.1) = ps.map (·.1) ∧ Fit (ps.map (·.2)) (kvs.map (·.2)) := by
  obtain ⟨o, h1, kvs, ⟨es, ep, r⟩, h3, h4⟩ := I.obj hi
  exact ⟨kvs, ⟨o, es, ep, h1, r⟩, h3, h4⟩
theorem isD_of {h : Heap} {d : Addr} {ps : List (Int × VP)} {kvs : List (Int × Value)} (hd : h.DictOf (intKind prog w) d kvs) (h3 : kvs.map (·.1) = ps.map (·.1)) (h4 : Fit (ps.map (·.2)) (kvs.map (·.2))) : ∃ o, h.get? d = some o ∧ isD prog w ps o := by
  obtain ⟨o, es, ep, h1, r⟩ := hd
  exact ⟨o, h1, kvs, ⟨es, ep, r⟩, h3, h4⟩

theorem newDct {pos : Pos} {Q : Value → Shared → Prop} (I : St g G O L m objs s) (h : ∀ a s', St g G O L m (objs ++ [(a, isD prog w [])]) s' → Q (.ref a) s') : wpAny (model prog w) A (eval (.Dict [] [] pos) env) Q E s := by
  refine wpAny_Dict_empty (h _ _ (I.push rfl ?_ rfl rfl rfl))
  exact ⟨[], ⟨#[], 0, ⟨rfl, rfl, rfl⟩, rfl, fun e he => by simp at he, .nil, .nil⟩, rfl, .nil⟩

theorem setD {i : Nat} {d : Addr} {ps : List (Int × VP)} {k : Int} {t : Tok} {v : Value} {P : VP} {Q : Unit → Shared → Prop} (I : St g G O L m objs s) (hi : objs[i]? = some (d, isD prog w ps)) (hk : k ∉ ps.map (·.1)) (hP : P v)
    (h : ∀ s', St g G O L m (objs.set i (d, isD prog w (ps ++ [(k, P)]))) s' → Q () s') (hz : ps.length ≤ 1000) : wpAny (model prog w) A (setItem (.ref d) (.int k t) v) Q E s := by
  obtain ⟨kvs, hd, h3, h4⟩ := I.dict hi
  have hl : kvs.length = ps.length := by have := congrArg List.length h3; simpa using this
  have hst : stored kvs k v = kvs ++ [(k, v)] := by
    unfold stored
    rw [if_neg]
    intro q
    obtain ⟨x, hx, e⟩ := List.any_eq_true.mp q
    apply hk
    rw [← h3, ← of_decide_eq_true e]
    exact List.mem_map_of_mem hx
  refine wpAny_setItem_pairs (intKind_is prog w k t) hd (fun h' hd' hs => h _ ?_) (by rw [hl, sizeLine_eq]; omega)
  rw [hst] at hd'
  exact I.upd hi hs (isD_of hd' (by simp [h3]) (by simpa using h4.append (.one hP))) rfl rfl rfl

theorem find_of {ps : List (Int × VP)} {kvs : List (Int × Value)} {k : Int} {P : VP} (h3 : kvs.map (·.1) = ps.map (·.1)) (h4 : Fit (ps.map (·.2)) (kvs.map (·.2))) (hk : (k, P) ∈ ps) (hn : (ps.map (·.1)).Nodup) : ∃ v, valueAt kvs k = some v ∧ P v := by
  obtain ⟨j, hj⟩ := List.mem_iff_getElem?.mp hk
  have hjl : j < kvs.length := by
    have := congrArg List.length h3
    simp only [List.length_map] at this
    rw [this]; exact (List.getElem?_eq_some_iff.mp hj).1
  have hkj : (kvs[j]).1 = k := by
    have e : (kvs.map (·.1))[j]? = (ps.map (·.1))[j]? := by rw [h3]
    rw [List.getElem?_map, List.getElem?_map, hj, List.getElem?_eq_getElem hjl] at e
    exact Option.some.inj e
  refine ⟨kvs[j].2, ?_, h4.2 j P _ (by rw [List.getElem?_map, hj]; rfl) (by rw [List.getElem?_map, List.getElem?_eq_getElem hjl]; rfl)⟩
  unfold valueAt
  have hf : kvs.find? (fun kv => decide (kv.1 = k)) = some kvs[j] := by
    rw [List.find?_eq_some_iff_getElem]
    refine ⟨by simpa using hkj, j, hjl, rfl, fun i hij => ?_⟩
    have hil : i < kvs.length := by omega
    have nd : (kvs.map (·.1)).Nodup := h3 ▸ hn
    have := List.pairwise_iff_getElem.mp nd i j (by simpa using hil) (by simpa using hjl) hij
    simp only [List.getElem_map] at this
    rw [hkj] at this
    simpa using this
  rw [hf]; rfl
theorem find_none {ps : List (Int × VP)} {kvs : List (Int × Value)} {k : Int} (h3 : kvs.map (·.1) = ps.map (·.1)) (hk : k ∉ ps.map (·.1)) : valueAt kvs k = none := by
  unfold valueAt
  rw [show kvs.find? (fun kv => decide (kv.1 = k)) = none from List.find?_eq_none.mpr fun x hx e => hk (by rw [← h3, ← of_decide_eq_true e]; exact List.mem_map_of_mem hx)]
  rfl
theorem St.dictNd (I : St g G O L m objs s) {i : Nat} {d : Addr} {ps : List (Int × VP)} (hi : objs[i]? = some (d, isD prog w ps)) : (ps.map (·.1)).Nodup := by
  obtain ⟨o, h1, kvs, ⟨es, ep, _, _, _, _, hn⟩, h3, h4⟩ := I.obj hi
  exact h3 ▸ hn

theorem getD {i : Nat} {d : Addr} {ps : List (Int × VP)} {k : Int} {t : Tok} {P : VP} {Q : Value → Shared → Prop} (I : St g G O L m objs s) (hi : objs[i]? = some (d, isD prog w ps)) (hk : (k, P) ∈ ps)
    (h : ∀ v s', P v → St g G O L m objs s' → Q v s') : wpAny (model prog w) A (getItem (.ref d) (.int k t)) Q E s := by
  obtain ⟨kvs, hd, h3, h4⟩ := I.dict hi
  obtain ⟨v, h5, h6⟩ := find_of h3 h4 hk (I.dictNd hi)
  exact wpAny_getItem_of (intKind_is prog w k t) hd.mapOf h5 (h v _ h6 (I.tk _))
theorem subscrD {value slice : Expr} {i : Nat} {d : Addr} {ps : List (Int × VP)} {k : Int} {t : Tok} {P : VP} {Q : Value → Shared → Prop} (I : St g G O L m objs s) (hi : objs[i]? = some (d, isD prog w ps)) (hk : (k, P) ∈ ps)
    (h : ∀ v s', P v → St g G O L m objs s' → Q v s') (hs : subscripted slice false (.ref d) (.int k t) = operate [.ref d, .int k t] (getItem (.ref d) (.int k t)) := by rfl) :
    wpAny (model prog w) A (subscriptTail value slice (.ref d) (.int k t)) Q E s := by
  obtain ⟨kvs, hd, h3, h4⟩ := I.dict hi
  exact tail_any hd.typeIs slot_dict_getitem.lookup (getD I hi hk h) hs
theorem tInD {i : Nat} {d : Addr} {ps : List (Int × VP)} {k : Int} {t : Tok} {Q : Bool → Shared → Prop} (I : St g G O L m objs s) (hW : W w g) (hi : objs[i]? = some (d, isD prog w ps))
    (h1 : k ∈ ps.map (·.1) → ∀ s', St g G O L m objs s' → Q true s') (h2 : k ∉ ps.map (·.1) → ∀ s', St g G O L m objs s' → Q false s') :
    wpAny (model prog w) A (compareOp .In (.int k t) (.ref d)) (fun c s₃ => wpAny (model prog w) A (truthy c) Q E s₃) E s := by
  obtain ⟨kvs, hd, h3, h4⟩ := I.dict hi
  refine wpAny_in_of (intKind_is prog w k t) (I.notSys hW hi) hd.mapOf (wpAny_truthy_bool ?_)
  by_cases hk : k ∈ ps.map (·.1)
  · obtain ⟨⟨k', P⟩, hp, rfl⟩ := List.mem_map.mp hk
    obtain ⟨v, h5, _⟩ := find_of h3 h4 hp (I.dictNd hi)
    rw [h5]; exact h1 hk _ (I.tk _)
  · rw [find_none h3 hk]; exact h2 hk _ (I.tk _)

/-- new objects -/
theorem St.grow (I : St g G O L m objs s) {s' : Shared} {news : List (Addr × OP)} (hk : ∀ b o, s.heap.get? b = some o → s'.heap.get? b = some o) (hn : ∀ p ∈ news, (∃ o, s'.heap.get? p.1 = some o ∧ p.2 o) ∧ s.heap.objs.size ≤ p.1)
    (hnd : (news.map (·.1)).Nodup) (hg : s'.gens = s.gens) (ho : s'.os = s.os) : St g G O L m (objs ++ news) s' := by
  obtain ⟨f, hf, hm⟩ := I.ns
  have fresh : ∀ p ∈ news, ∀ b o, s.heap.get? b = some o → b ≠ p.1 := fun p hp b o e q => by
    have := Heap.lt_size e
    rw [q] at this
    exact absurd (hn p hp).2 (Nat.not_le.mpr this)
  refine ⟨⟨f, hf.keeps hk, hm⟩, fun b o e => hk b o (I.keep b o e), I.newL, fun p hp => ?_, ?_, hg.trans I.gens, ho.trans I.os⟩
  · rcases List.mem_append.mp hp with hp | hp
    · obtain ⟨⟨o, h1, h2⟩, h3⟩ := I.led p hp
      exact ⟨⟨o, hk _ _ h1, h2⟩, h3⟩
    · obtain ⟨oL, _, _, hL, _⟩ := hf
      refine ⟨(hn p hp).1, fun q => fresh p hp L oL hL q.symm, ?_⟩
      cases q : g.get? p.1 with
      | none => rfl
      | some o => exact absurd rfl (fresh p hp p.1 o (I.keep _ _ q))
  · rw [List.map_append]
    refine List.nodup_append.mpr ⟨I.nd, hnd, fun a ha b hb e => ?_⟩
    subst e
    obtain ⟨p, hp, e1⟩ := List.mem_map.mp ha
    obtain ⟨q, hq, e2⟩ := List.mem_map.mp hb
    obtain ⟨⟨o, h1, _⟩, _⟩ := I.led p hp
    exact fresh q hq p.1 o h1 (e1.trans e2.symm)
theorem St.kept (I : St g G O L m objs s) {s' : Shared} (hk : ∀ b o, s.heap.get? b = some o → s'.heap.get? b = some o) (hg : s'.gens = s.gens) (ho : s'.os = s.os) : St g G O L m objs s' := by
  have := I.grow (news := []) hk (fun _ h => nomatch h) .nil hg ho
  rwa [List.append_nil] at this

theorem srtL {i : Nat} {l : Addr} {ns : List Int} {Q : Value → Shared → Prop} (I : St g G O L m objs s) (hi : objs[i]? = some (l, isLI ns)) (hz : ns.length < 64) (h : ∀ a s', St g G O L m (objs ++ [(a, isLI (srt ns))]) s' → Q (.ref a) s') :
    wpAny (model prog w) A (call (.builtin "sorted") [.ref l]) Q E s := by
  obtain ⟨vs, n, hl, hf⟩ := I.ints hi
  refine sorted_ints (isList_of hl) hf (by rw [hf.length]; exact hz) fun out ns' h1 h2 h3 => ?_
  obtain ⟨e, he⟩ := sortedAll_at s.heap vs out
  rw [srt_eq h2 h3] at h1
  refine h _ _ (I.grow (fun b o e => sortedAll_old e) (fun p hp => ?_) (by simp) rfl rfl)
  obtain rfl := List.mem_singleton.mp hp
  exact ⟨⟨_, he, out.toList, e, rfl, ints_fit h1⟩, Nat.le_succ _⟩
end
end Mine
end
-- MZ
section
open PySem PySem.W PyProof.Rows
set_option maxRecDepth 100000
namespace Mine

/-- an iterator that gives pairs -/
structure It2 (prog : Program) (w : World) (A : Around) (it : Addr) (src : List (Addr × OP)) (n : Nat) (P1 P2 : Nat → VP) (J : Nat → List (Addr × OP)) : Prop where
  next : ∀ {g : Heap} {G : Array GenState} {O : OsState} {L : Addr} {m : List (Str × VP)} {objs : List (Addr × OP)} {s : Shared} {elts : List Expr} {x1 : Nat} {pos : Pos} {R : Shared → Prop} {Q : Value → Shared → Prop} {E : Value → Shared → Prop} (k : Nat), k < n →
    (∀ p ∈ src, p ∈ objs) → St g G O L m (objs ++ J k) s →
    (∀ T v1 v2 s', P1 k v1 → P2 k v2 → St g G O L m (objs ++ J (k + 1)) s' → s'.heap.IsTuple T #[v1, v2] → Q (.ref T) s') →
    wpAny (model prog w) A (pyNext (.ref it)) (fun r s₁ => match r with | none => R s₁ | some v => wpAny (model prog w) A (letOwnedTupleGo (.Tuple elts x1 pos) (.ref it) v) (fun _ s₂ => Q v s₂) E s₁) E s
  done : ∀ {g : Heap} {G : Array GenState} {O : OsState} {L : Addr} {m : List (Str × VP)} {objs : List (Addr × OP)} {s : Shared} {Q : Option Value → Shared → Prop} {E : Value → Shared → Prop},
    (∀ p ∈ src, p ∈ objs) → St g G O L m (objs ++ J n) s → (∀ s', St g G O L m objs s' → Q none s') → wpAny (model prog w) A (pyNext (.ref it)) Q E s
  self : ∀ {g : Heap} {G : Array GenState} {O : OsState} {L : Addr} {m : List (Str × VP)} {objs : List (Addr × OP)} {s : Shared} {Q : Value → Shared → Prop} {E : Value → Shared → Prop} (k : Nat),
    St g G O L m (objs ++ J k) s → Q (.ref it) s → wpAny (model prog w) A (pyIter (.ref it)) Q E s

section
variable {prog : Program} {w : World} {A : Around} {E : Value → Shared → Prop} {s : Shared}
variable {g : Heap} {G : Array GenState} {O : OsState} {L : Addr} {m : List (Str × VP)} {objs : List (Addr × OP)} {env : Env} {names : List (Str × NameKind)} {cs : List (Str × Addr)}

/-- a part of the ledger is laid anew -/
theorem St.relay {J J' : List (Addr × OP)} (I : St g G O L m (objs ++ J) s) {s' : Shared} (he : J'.map (·.1) = J.map (·.1)) (hk : ∀ b o, b ∉ J.map (·.1) → s.heap.get? b = some o → s'.heap.get? b = some o)
    (hJ : ∀ p ∈ J', ∃ o, s'.heap.get? p.1 = some o ∧ p.2 o) (hg : s'.gens = s.gens) (ho : s'.os = s.os) : St g G O L m (objs ++ J') s' := by
  have nd := I.nd
  rw [List.map_append] at nd
  obtain ⟨n1, n2, n3⟩ := List.nodup_append.mp nd
  have hLJ : L ∉ J.map (·.1) := fun q => by
    obtain ⟨p, hp, e⟩ := List.mem_map.mp q
    exact (I.led p (List.mem_append_right _ hp)).2.1 e
  obtain ⟨f, ⟨oL, es, ep, hL, r⟩, hm⟩ := I.ns
  refine ⟨⟨f, ⟨oL, es, ep, hk _ _ hLJ hL, r⟩, hm⟩, fun b o e => hk b o (fun q => ?_) (I.keep b o e), I.newL, fun p hp => ?_, ?_, hg.trans I.gens, ho.trans I.os⟩
  · obtain ⟨p, hp, rfl⟩ := List.mem_map.mp q
    rw [(I.led p (List.mem_append_right _ hp)).2.2] at e; cases e
  · rcases List.mem_append.mp hp with hp | hp
    · obtain ⟨⟨o, h1, h2⟩, h3⟩ := I.led p (List.mem_append_left _ hp)
      exact ⟨⟨o, hk _ _ (fun q => n3 _ (List.mem_map_of_mem hp) _ q rfl) h1, h2⟩, h3⟩
    · have : p.1 ∈ J.map (·.1) := he ▸ List.mem_map_of_mem hp
      obtain ⟨q, hq, e⟩ := List.mem_map.mp this
      exact ⟨hJ p hp, e ▸ (I.led q (List.mem_append_right _ hq)).2⟩
  · rw [List.map_append, he]; exact List.nodup_append.mpr ⟨n1, n2, n3⟩

theorem unpack2 {x y : Str} {px py pos : Pos} {x1 : Nat} {T : Addr} {v1 v2 : Value} {P1 P2 : VP} {Q : Unit → Shared → Prop} (hh : A.handled = none) (HE : EnvIs env L names cs) (I : St g G O L m objs s) (hT : s.heap.IsTuple T #[v1, v2]) (h1 : P1 v1) (h2 : P2 v2)
    (h : ∀ s', St g G O L ((y, P2) :: (x, P1) :: m) objs s' → Q () s') (hx : names.lookup x = some .local := by rfl) (hy : names.lookup y = some .local := by rfl) :
    wpAny (model prog w) A (assign (.Tuple [.Name x px, .Name y py] x1 pos) env (.ref T)) Q E s := by
  refine wpAny_assign_Tuple hh hT rfl rfl fun h' hs => ?_
  have I1 : St g G O L m objs { s with heap := h' } := I.kept (fun b o e => hs b o (Nat.ne_of_lt (Heap.lt_size e)) e) rfl rfl
  refine wpAny_assignInOrder_more (wpAny_assign_Name (sto HE I1 h1 (fun s2 I2 => ?_) hx))
  refine wpAny_assignInOrder_more (wpAny_assign_Name (sto HE I2 h2 (fun s3 I3 => ?_) hy))
  exact wpAny_pure (h _ I3)

/-- for x, y in ..: -/
theorem forI2 {R : Result → Shared → Prop} {x y : Str} {px py pos : Pos} {x1 : Nat} {body : List Stmt} {it : Addr} {src : List (Addr × OP)} {n : Nat} {P1 P2 : Nat → VP} {J : Nat → List (Addr × OP)} (hh : A.handled = none) (W : It2 prog w A it src n P1 P2 J) (HE : EnvIs env L names cs)
    (Inv : Nat → List (Str × VP) → List (Addr × OP) → Prop) (h0 : Inv 0 m objs) (hsrc : ∀ k m' objs', Inv k m' objs' → ∀ p ∈ src, p ∈ objs') (I : St g G O L m (objs ++ J 0) s)
    (turn : ∀ k g' m' objs' s', (∀ b o, g.get? b = some o → g'.get? b = some o) → k < n → Inv k m' objs' → St g' G O L ((y, P2 k) :: (x, P1 k) :: m') objs' s' → ∀ E',
      wpAny (model prog w) A (execs body env) (fun f s₃ => (f = .next ∨ f = .cont) ∧ ∃ m'' objs'', Inv (k + 1) m'' objs'' ∧ St g' G O L m'' objs'' s₃) E' s')
    (fin : ∀ m' objs' s', Inv n m' objs' → St g G O L m' objs' s' → R (.ok .next) s') (hx : names.lookup x = some .local := by rfl) (hy : names.lookup y = some .local := by rfl) :
    codeAny (model prog w) A (.forLoop (.Tuple [.Name x px, .Name y py] x1 pos) (.ref it) body [] env) R s := by
  refine codeAny_forLoop_any (I := fun k' s => ∃ k m' objs', k' = n - k ∧ k ≤ n ∧ Inv k m' objs' ∧ St g G O L m' (objs' ++ J k) s) ?_ n ⟨0, m, objs, rfl, Nat.zero_le _, h0, I⟩
  rintro k' s1 ⟨k, m1, objs1, rfl, hk, hI, I1⟩
  by_cases hkn : k < n
  · refine W.next k hkn (hsrc _ _ _ hI) I1 fun T v1 v2 s2 h1 h2 I2 hT => ?_
    refine unpack2 hh HE I2 hT h1 h2 (fun s3 I3 => ?_) hx hy
    obtain ⟨g', I4, hg, back⟩ := I3.out
    refine wpAny_mono (turn k g' m1 objs1 s3 hg hkn hI I4 _) (fun f s4 ⟨hf, m2, objs2, hI2, I5⟩ => ?_) fun _ _ x => x
    have : ∃ k2, k2 < n - k ∧ ∃ k m' objs', k2 = n - k ∧ k ≤ n ∧ Inv k m' objs' ∧ St g G O L m' (objs' ++ J k) s4 := ⟨n - (k + 1), by omega, k + 1, m2, objs2, rfl, hkn, hI2, back _ _ _ I5⟩
    rcases hf with rfl | rfl <;> exact this
  · obtain rfl : k = n := by omega
    exact W.done (hsrc _ _ _ hI) I1 fun s2 I2 => wpAny_execs_nil (fin _ _ _ hI I2)

noncomputable def isO (o₀ : Obj) : OP := fun o => o = o₀
noncomputable def zipJ (z TI TO i1 i2 l1 l2 : Addr) (k : Nat) : List (Addr × OP) :=
  [(z, isO { cls := .type "zip", dict := none, data := .fields #[.none, .bool false, .bool false, .ref TI, .ref TO], slots := #[] }), (TI, isO { cls := .type "tuple", data := .seq #[.ref i1, .ref i2] }),
    (TO, fun o => ∃ a b, o = { cls := .type "tuple", data := .seq #[a, b] }), (i1, isLit l1 k), (i2, isLit l2 k)]

theorem It2.zip (hh : A.handled = none) (z TI TO i1 i2 l1 l2 : Addr) (ps qs : List VP) (hl : ps.length = qs.length) (hD : ZipApart z TI TO i1 i2 l1 l2) :
    It2 prog w A z [(l1, isL ps), (l2, isL qs)] ps.length (fun k v => ∀ P, ps[k]? = some P → P v) (fun k v => ∀ P, qs[k]? = some P → P v) (zipJ z TI TO i1 i2 l1 l2) where
  next := fun {g G O L m objs s elts x1 pos R Q E} k hk hsrc I hQ => by
    obtain ⟨vs, n, hl1, hf1⟩ := I.memList (List.mem_append_left _ (hsrc _ (.head _)))
    obtain ⟨us, n2, hl2, hf2⟩ := I.memList (List.mem_append_left _ (hsrc _ (.tail _ (.head _))))
    obtain ⟨o1, a1, b1⟩ := (I.led (z, _) (List.mem_append_right _ (.head _))).1
    obtain ⟨o2, a2, b2⟩ := (I.led (TI, _) (List.mem_append_right _ (.tail _ (.head _)))).1
    obtain ⟨o3, a3, c1, c2, b3⟩ := (I.led (TO, _) (List.mem_append_right _ (.tail _ (.tail _ (.head _))))).1
    obtain ⟨o4, a4, b4⟩ := (I.led (i1, _) (List.mem_append_right _ (.tail _ (.tail _ (.tail _ (.head _)))))).1
    obtain ⟨o5, a5, b5⟩ := (I.led (i2, _) (List.mem_append_right _ (.tail _ (.tail _ (.tail _ (.tail _ (.head _))))))).1
    have b1' : o1 = _ := b1
    have b2' : o2 = _ := b2
    subst b1' b2' b3
    have hk2 : k < qs.length := hl ▸ hk
    obtain ⟨v, hv, hP⟩ := hf1.get (List.getElem?_eq_getElem hk)
    obtain ⟨u, hu, hP2⟩ := hf2.get (List.getElem?_eq_getElem hk2)
    refine wpAny_pyNext_zip_item hD a1 a2 a3 ⟨o4, a4, b4⟩ ⟨o5, a5, b5⟩ (isList_of hl1) (isList_of hl2) (by simpa using hv) (by simpa using hu) fun h' z1 z2 z3 z4 z5 z6 z7 => ?_
    refine wpAny_letOwnedTupleGo_zip z1 fun h'' y1 hs => ?_
    have nsz : s.heap.objs.size ≠ z := Ne.symm (Nat.ne_of_lt (Heap.lt_size a1))
    refine hQ _ v u _ (fun P e => by rw [List.getElem?_eq_getElem hk] at e; cases e; exact hP) (fun P e => by rw [List.getElem?_eq_getElem hk2] at e; cases e; exact hP2) ?_ ⟨_, (hs.2 _ nsz).trans z5, rfl, 0, rfl⟩
    refine I.relay (J' := zipJ z TI TO i1 i2 l1 l2 (k + 1)) rfl (fun b o hb e => ?_) (fun p hp => ?_) rfl rfl
    · have hb' : b ≠ z ∧ b ≠ TI ∧ b ≠ TO ∧ b ≠ i1 ∧ b ≠ i2 := by
        exact ⟨fun q => hb (q ▸ .head _), fun q => hb (q ▸ .tail _ (.head _)), fun q => hb (q ▸ .tail _ (.tail _ (.head _))), fun q => hb (q ▸ .tail _ (.tail _ (.tail _ (.head _)))), fun q => hb (q ▸ .tail _ (.tail _ (.tail _ (.tail _ (.head _)))))⟩
      exact (hs.2 b hb'.1).trans (z7 b o hb'.1 hb'.2.2.1 hb'.2.2.2.1 hb'.2.2.2.2 e)
    · obtain ⟨q3, e3⟩ := z3
      obtain ⟨q4, e4⟩ := z4
      have tI : h''.get? TI = _ := (hs.2 TI hD.TIz).trans (z7 TI _ hD.TIz hD.TITO hD.TIi1 hD.TIi2 a2)
      rcases List.mem_cons.mp hp with rfl | hp
      · exact ⟨_, y1, rfl⟩
      rcases List.mem_cons.mp hp with rfl | hp
      · exact ⟨_, tI, rfl⟩
      rcases List.mem_cons.mp hp with rfl | hp
      · exact ⟨_, (hs.2 TO hD.TOz).trans z2, _, _, rfl⟩
      rcases List.mem_cons.mp hp with rfl | hp
      · exact ⟨q3, (hs.2 i1 hD.i1z).trans e3.1, e3.2⟩
      obtain rfl := List.mem_singleton.mp hp
      exact ⟨q4, (hs.2 i2 hD.i2z).trans e4.1, e4.2⟩
  done := fun {g G O L m objs s Q E} hsrc I hQ => by
    obtain ⟨vs, n, hl1, hf1⟩ := I.memList (List.mem_append_left _ (hsrc _ (.head _)))
    obtain ⟨us, n2, hl2, hf2⟩ := I.memList (List.mem_append_left _ (hsrc _ (.tail _ (.head _))))
    obtain ⟨o1, a1, b1⟩ := (I.led (z, _) (List.mem_append_right _ (.head _))).1
    obtain ⟨o2, a2, b2⟩ := (I.led (TI, _) (List.mem_append_right _ (.tail _ (.head _)))).1
    obtain ⟨o3, a3, c1, c2, b3⟩ := (I.led (TO, _) (List.mem_append_right _ (.tail _ (.tail _ (.head _))))).1
    obtain ⟨o4, a4, b4⟩ := (I.led (i1, _) (List.mem_append_right _ (.tail _ (.tail _ (.tail _ (.head _)))))).1
    obtain ⟨o5, a5, b5⟩ := (I.led (i2, _) (List.mem_append_right _ (.tail _ (.tail _ (.tail _ (.tail _ (.head _))))))).1
    have b1' : o1 = _ := b1
    have b2' : o2 = _ := b2
    subst b1' b2' b3
    refine wpAny_pyNext_zip_end hh hD a1 a2 a3 ⟨o4, a4, b4⟩ ⟨o5, a5, b5⟩ (isList_of hl1) (isList_of hl2) (.inl (by simp [hf1.1])) fun h' z7 => hQ _ ?_
    have nd := I.nd
    rw [List.map_append] at nd
    have n3 := (List.nodup_append.mp nd).2.2
    have hne : ∀ p ∈ objs, p.1 ≠ z ∧ p.1 ≠ TO ∧ p.1 ≠ i1 ∧ p.1 ≠ i2 := fun p hp =>
      ⟨n3 _ (List.mem_map_of_mem hp) z (.head _), n3 _ (List.mem_map_of_mem hp) TO (.tail _ (.tail _ (.head _))), n3 _ (List.mem_map_of_mem hp) i1 (.tail _ (.tail _ (.tail _ (.head _)))), n3 _ (List.mem_map_of_mem hp) i2 (.tail _ (.tail _ (.tail _ (.tail _ (.head _)))))⟩
    have hz := (I.led (z, _) (List.mem_append_right _ (.head _))).2
    have hT := (I.led (TO, _) (List.mem_append_right _ (.tail _ (.tail _ (.head _))))).2
    have h1 := (I.led (i1, _) (List.mem_append_right _ (.tail _ (.tail _ (.tail _ (.head _)))))).2
    have h2 := (I.led (i2, _) (List.mem_append_right _ (.tail _ (.tail _ (.tail _ (.tail _ (.head _))))))).2
    have hnn : ∀ {c b : Addr} {o : Obj}, g.get? c = none → g.get? b = some o → b ≠ c := fun hc hb q => by rw [q, hc] at hb; cases hb
    obtain ⟨f, ⟨oL, es, ep, hL, r⟩, hm⟩ := I.ns
    refine ⟨⟨f, ⟨oL, es, ep, z7 L oL (Ne.symm hz.1) (Ne.symm hT.1) (Ne.symm h1.1) (Ne.symm h2.1) hL, r⟩, hm⟩, fun b o e => z7 b o ?_ ?_ ?_ ?_ (I.keep b o e), I.newL, fun p hp => ?_, (List.nodup_append.mp nd).1, I.gens, I.os⟩
    · exact hnn hz.2 e
    · exact hnn hT.2 e
    · exact hnn h1.2 e
    · exact hnn h2.2 e
    · obtain ⟨⟨o, q1, q2⟩, q3⟩ := I.led p (List.mem_append_left _ hp)
      obtain ⟨e1, e2, e3, e4⟩ := hne p hp
      exact ⟨⟨o, z7 _ _ e1 e2 e3 e4 q1, q2⟩, q3⟩
  self := fun {g G O L m objs s Q E} k I h => by
    obtain ⟨o1, a1, b1⟩ := (I.led (z, _) (List.mem_append_right _ (.head _))).1
    have b1' : o1 = _ := b1
    subst b1'
    exact wpAny_pyIter_zip a1 h

theorem callZip {i j : Nat} {l1 l2 : Addr} {ps qs : List VP} {Q : Value → Shared → Prop} (I : St g G O L m objs s) (hi : objs[i]? = some (l1, isL ps)) (hj : objs[j]? = some (l2, isL qs))
    (h : ∀ z TI TO i1 i2 s', ZipApart z TI TO i1 i2 l1 l2 → St g G O L m (objs ++ zipJ z TI TO i1 i2 l1 l2 0) s' → Q (.ref z) s') : wpAny (model prog w) A (call (.type "zip") [.ref l1, .ref l2]) Q E s := by
  obtain ⟨vs, n, hl1, hf1⟩ := I.list hi
  obtain ⟨us, n2, hl2, hf2⟩ := I.list hj
  refine call_zip_2 (isList_of hl1) (isList_of hl2) fun h' z1 z2 z3 z4 z5 z6 z7 => ?_
  refine h (s.heap.objs.size + 4) (s.heap.objs.size + 2) (s.heap.objs.size + 3) s.heap.objs.size (s.heap.objs.size + 1) _ (zipApart_new (Heap.lt_size hl1) (Heap.lt_size hl2)) (I.grow z7 (fun p hp => ?_) ?_ rfl rfl)
  · obtain ⟨q4, e4⟩ := z4
    obtain ⟨q5, e5⟩ := z5
    simp only [zipJ, List.mem_cons, List.not_mem_nil, or_false] at hp
    rcases hp with rfl | rfl | rfl | rfl | rfl
    · exact ⟨⟨_, z1, rfl⟩, by simp⟩
    · exact ⟨⟨_, z2, rfl⟩, by simp⟩
    · exact ⟨⟨_, z3, _, _, rfl⟩, by simp⟩
    · exact ⟨⟨q4, e4⟩, by simp⟩
    · exact ⟨⟨q5, e5⟩, by simp⟩
  · simp [zipJ]

theorem tNeLI {i j : Nat} {a b : Addr} {ns ms : List Int} {Q : Bool → Shared → Prop} (I : St g G O L m objs s) (hi : objs[i]? = some (a, isLI ns)) (hj : objs[j]? = some (b, isLI ms)) (hu : A.units + 64 < cLine)
    (h1 : ns ≠ ms → Q true s) (h2 : ns = ms → Q false s) :
    wpAny (model prog w) A (compareOp .NotEq (.ref a) (.ref b)) (fun c s₃ => wpAny (model prog w) A (truthy c) Q E s₃) E s := by
  obtain ⟨vs, n, hl, hf⟩ := I.ints hi
  obtain ⟨us, n', hl', hf'⟩ := I.ints hj
  refine ne_intsK (isList_of hl) hf (isList_of hl') hf' hu (wpAny_truthy_bool ?_)
  by_cases e : ns = ms
  · rw [decide_eq_true e]; exact h2 e
  · rw [decide_eq_false e]; exact h1 e

noncomputable def envX (names : List (Str × NameKind)) : Env := { (default : Env) with scope := { (default : Scope) with kind := .function, names := names } }
theorem swapped_eq {ts : List Expr} {v : Expr} (HE : EnvIs env L names cs) : swappedStores ts v env = swappedStores ts v (envX names) := by
  unfold swappedStores Env.blockKind Env.kindOf
  rw [HE.kind, HE.names]
  rfl
theorem St.tup3 (I : St g G O L m objs s) {i : Nat} {T : Addr} {P1 P2 P3 : VP} (hi : objs[i]? = some (T, isT [P1, P2, P3])) : ∃ v1 v2 v3, s.heap.IsTuple T #[v1, v2, v3] ∧ P1 v1 ∧ P2 v2 ∧ P3 v3 := by
  obtain ⟨vs, n, h1, h2⟩ := I.tup hi
  match vs, h2 with
  | [v1, v2, v3], h2 => exact ⟨v1, v2, v3, isTuple_of h1, h2.2 0 P1 v1 rfl rfl, h2.2 1 P2 v2 rfl rfl, h2.2 2 P3 v3 rfl rfl⟩
  | [], h2 => have := h2.1; simp at this
  | [_], h2 => have := h2.1; simp at this
  | [_, _], h2 => have := h2.1; simp at this
  | _ :: _ :: _ :: _ :: _, h2 => have := h2.1; simp at this
theorem St.tup2 (I : St g G O L m objs s) {i : Nat} {T : Addr} {P1 P2 : VP} (hi : objs[i]? = some (T, isT [P1, P2])) : ∃ v1 v2, s.heap.IsTuple T #[v1, v2] ∧ P1 v1 ∧ P2 v2 := by
  obtain ⟨vs, n, h1, h2⟩ := I.tup hi
  match vs, h2 with
  | [v1, v2], h2 => exact ⟨v1, v2, isTuple_of h1, h2.2 0 P1 v1 rfl rfl, h2.2 1 P2 v2 rfl rfl⟩
  | [], h2 => have := h2.1; simp at this
  | [_], h2 => have := h2.1; simp at this
  | _ :: _ :: _ :: _, h2 => have := h2.1; simp at this
theorem unpackSw3 {x1 x2 x3 : Str} {i : Nat} {T : Addr} {P1 P2 P3 : VP} {Q : Unit → Shared → Prop} (hh : A.handled = none) (HE : EnvIs env L names cs) (I : St g G O L m objs s) (hi : objs[i]? = some (T, isT [P1, P2, P3]))
    (h : ∀ s', St g G O L ((x1, P1) :: (x2, P2) :: (x3, P3) :: m) objs s' → Q () s') (h1 : names.lookup x1 = some .local := by rfl) (h2 : names.lookup x2 = some .local := by rfl) (h3 : names.lookup x3 = some .local := by rfl) :
    wpAny (model prog w) A (unpackItems (.ref T) 3 none) (fun items s₂ => wpAny (model prog w) A (assignInOrder ([x1, x2, x3].reverse.map fun n => bindName env n) items.reverse) Q E s₂) E s := by
  obtain ⟨v1, v2, v3, hT, p1, p2, p3⟩ := I.tup3 hi
  rw [show (3 : Nat) = (#[v1, v2, v3] : Array Value).size from rfl]
  refine wpAny_unpackItems_tuple hh hT fun h' hs => ?_
  have I1 : St g G O L m objs { s with heap := h' } := I.kept (fun b o e => hs b o (Nat.ne_of_lt (Heap.lt_size e)) e) rfl rfl
  have e1 : ([x1, x2, x3].reverse.map fun n => bindName env n) = [bindName env x3, bindName env x2, bindName env x1] := by simp
  have e2 : (#[v1, v2, v3] : Array Value).toList.reverse = [v3, v2, v1] := by simp
  rw [e1, e2]
  refine wpAny_assignInOrder_more (wpAny_bindName (sto HE I1 p3 (fun s2 I2 => ?_) h3))
  refine wpAny_assignInOrder_more (wpAny_bindName (sto HE I2 p2 (fun s3 I3 => ?_) h2))
  refine wpAny_assignInOrder_more (wpAny_bindName (sto HE I3 p1 (fun s4 I4 => ?_) h1))
  exact wpAny_pure (h _ I4)
/-- a family of int lists -/
noncomputable def fam (as : List Addr) (cs : List (List Int)) : List (Addr × OP) := List.zipWith (fun a c => (a, isLI c)) as cs
theorem fam_get {as : List Addr} {cs : List (List Int)} {j : Nat} (ha : j < as.length) (hc : j < cs.length) : (fam as cs)[j]? = some (as[j], isLI cs[j]) := by
  unfold fam; rw [List.getElem?_zipWith, List.getElem?_eq_getElem ha, List.getElem?_eq_getElem hc]
theorem fam_set {as : List Addr} {cs : List (List Int)} {j : Nat} (ha : j < as.length) (hc : j < cs.length) (x : List Int) : (fam as cs).set j (as[j], isLI x) = fam as (cs.set j x) := by
  apply List.ext_getElem?
  intro k
  unfold fam
  rw [List.getElem?_set, List.getElem?_zipWith, List.getElem?_zipWith, List.getElem?_set]
  by_cases e : j = k
  · subst e
    simp [ha, hc]; omega
  · simp [e]
theorem fam_length {as : List Addr} {cs : List (List Int)} (h : as.length = cs.length) : (fam as cs).length = as.length := by
  unfold fam; rw [List.length_zipWith, h]; simp
theorem fam_append {as as' : List Addr} {cs cs' : List (List Int)} (h : as.length = cs.length) : fam (as ++ as') (cs ++ cs') = fam as cs ++ fam as' cs' := by
  unfold fam; exact List.zipWith_append h
noncomputable abbrev nm (x : String) (P : VP) : Str × VP := (Str.ofString x, P)
noncomputable abbrev vref (a : Addr) : VP := isV (.ref a)
end
end Mine
end
-- MO
section
open PySem PySem.W PyProof.Rows
set_option maxRecDepth 100000
set_option maxHeartbeats 4000000
namespace Mine

/-- the own dict of an object -/
noncomputable def isA (as : List (Str × VP)) : OP := fun o => ∃ es n, o = dictOf es n ∧ es.length = as.length ∧ ∀ (i : Nat) (x : Str) (P : VP) (e : DictEntry), as[i]? = some (x, P) → es[i]? = some e → (∃ t, e.key = .str x t) ∧ P e.val
noncomputable def updA (x : Str) (P : VP) : List (Str × VP) → List (Str × VP)
  | [] => [(x, P)]
  | (y, Q) :: r => if y = x then (y, P) :: r else (y, Q) :: updA x P r

theorem isStr_str (x y : Str) (t : Tok) : (Value.str x t).isStr y = decide (x = y) := by
  show (x == y) = _
  by_cases h : x = y <;> simp [h]
theorem isA_get : ∀ {as : List (Str × VP)} {es : List DictEntry}, es.length = as.length → (∀ (i : Nat) (x : Str) (P : VP) (e : DictEntry), as[i]? = some (x, P) → es[i]? = some e → (∃ t, e.key = .str x t) ∧ P e.val) →
    ∀ x P, as.lookup x = some P → ∃ v, getL x es = some (some v) ∧ P v
  | [], _, _, _, _, _, h => by cases h
  | (y, Q) :: r, [], hl, _, _, _, _ => by simp at hl
  | (y, Q) :: r, e :: es, hl, hf, x, P, h => by
    obtain ⟨⟨t, hk⟩, hP⟩ := hf 0 y Q e rfl rfl
    rcases lookup_up h with ⟨rfl, rfl⟩ | ⟨ne, h⟩
    · refine ⟨e.val, ?_, hP⟩
      unfold getL
      rw [List.find?_cons, hk, isStr_str, decide_eq_true rfl]
    · obtain ⟨v, h1, h2⟩ := isA_get (as := r) (es := es) (by simpa using hl) (fun i z P e ha he => hf (i + 1) z P e ha he) x P h
      refine ⟨v, ?_, h2⟩
      unfold getL at h1 ⊢
      rw [List.find?_cons, hk, isStr_str, decide_eq_false (Ne.symm ne)]
      dsimp only
      cases q : es.find? (·.key.isStr x) with
      | some e' => rw [q] at h1; exact h1
      | none =>
        rw [q] at h1
        dsimp only at h1
        split at h1 <;> cases h1
theorem isA_none : ∀ {as : List (Str × VP)} {es : List DictEntry}, es.length = as.length → (∀ (i : Nat) (x : Str) (P : VP) (e : DictEntry), as[i]? = some (x, P) → es[i]? = some e → (∃ t, e.key = .str x t) ∧ P e.val) →
    ∀ x, as.lookup x = none → getL x es = some none := by
  intro as es hl hf x hx
  have hkey : ∀ e ∈ es, ∃ y t, e.key = .str y t ∧ y ≠ x := by
    intro e he
    obtain ⟨i, hi⟩ := List.mem_iff_getElem?.mp he
    have hil : i < as.length := hl ▸ (List.getElem?_eq_some_iff.mp hi).1
    obtain ⟨⟨t, hk⟩, _⟩ := hf i as[i].1 as[i].2 e (List.getElem?_eq_getElem hil) hi
    refine ⟨_, t, hk, fun e => ?_⟩
    have : (as.lookup x).isSome := by
      rw [List.lookup_isSome_iff]
      exact ⟨as[i], List.getElem_mem _, by simpa using e.symm⟩
    rw [hx] at this; cases this
  unfold getL
  rw [show es.find? (·.key.isStr x) = none from List.find?_eq_none.mpr fun e he => by
    obtain ⟨y, t, hk, ne⟩ := hkey e he
    rw [hk, isStr_str]; simpa using ne]
  dsimp only
  rw [if_neg]
  intro q
  obtain ⟨e, he, hr⟩ := List.any_eq_true.mp q
  obtain ⟨y, t, hk, _⟩ := hkey e he
  simp [DictEntry.refKey, hk] at hr
theorem isA_put : ∀ {as : List (Str × VP)} {es : List DictEntry}, es.length = as.length → (∀ (i : Nat) (x : Str) (P : VP) (e : DictEntry), as[i]? = some (x, P) → es[i]? = some e → (∃ t, e.key = .str x t) ∧ P e.val) →
    ∀ x (P : VP) v hsh t, P v → (putL x hsh (.str x t) v es).length = (updA x P as).length ∧ ∀ (i : Nat) (y : Str) (Q : VP) (e : DictEntry), (updA x P as)[i]? = some (y, Q) → (putL x hsh (.str x t) v es)[i]? = some e → (∃ t, e.key = .str y t) ∧ Q e.val
  | [], [], _, _, x, P, v, hsh, t, hP => ⟨rfl, fun i y Q e h1 h2 => by
      cases i with
      | zero => cases h1; cases h2; exact ⟨⟨t, rfl⟩, hP⟩
      | succ i => cases h1⟩
  | [], _ :: _, hl, _, _, _, _, _, _, _ => by simp at hl
  | (y, Q) :: r, [], hl, _, _, _, _, _, _, _ => by simp at hl
  | (y, Q) :: r, e :: es, hl, hf, x, P, v, hsh, t, hP => by
    obtain ⟨⟨tk, hk⟩, hQ⟩ := hf 0 y Q e rfl rfl
    unfold putL updA
    rw [hk, isStr_str]
    by_cases hy : y = x
    · rw [decide_eq_true hy, if_pos rfl, if_pos hy]
      refine ⟨by simpa using hl, fun i z R e' h1 h2 => ?_⟩
      cases i with
      | zero => cases h1; cases h2; exact ⟨⟨tk, rfl⟩, hP⟩
      | succ i => exact hf (i + 1) z R e' h1 h2
    · rw [decide_eq_false hy, if_neg Bool.false_ne_true, if_neg hy]
      obtain ⟨h1, h2⟩ := isA_put (as := r) (es := es) (by simpa using hl) (fun i z P e ha he => hf (i + 1) z P e ha he) x P v hsh t hP
      refine ⟨by simpa using h1, fun i z R e' g1 g2 => ?_⟩
      cases i with
      | zero => cases g1; cases g2; exact ⟨⟨tk, hk⟩, hQ⟩
      | succ i => exact h2 i z R e' g1 g2

section
variable {prog : Program} {w : World} {A : Around} {E : Value → Shared → Prop} {s : Shared}
variable {g : Heap} {G : Array GenState} {O : OsState} {L : Addr} {m : List (Str × VP)} {objs : List (Addr × OP)} {env : Env} {names : List (Str × NameKind)} {cs : List (Str × Addr)}

theorem St.inst (I : St g G O L m objs s) {i j : Nat} {x dx C : Addr} {as : List (Str × VP)} (hi : objs[i]? = some (x, isO (instObj C dx))) (hj : objs[j]? = some (dx, isA as)) :
    ∃ es n, InstAt s.heap x (instObj C dx) C (some (dictOf es n)) ∧ es.length = as.length ∧ (∀ (i : Nat) (x : Str) (P : VP) (e : DictEntry), as[i]? = some (x, P) → es[i]? = some e → (∃ t, e.key = .str x t) ∧ P e.val) := by
  obtain ⟨o, h1, h2⟩ := I.obj hi
  obtain ⟨o', h3, es, n, rfl, h5, h6⟩ := I.obj hj
  have h2' : o = instObj C dx := h2
  subst h2'
  exact ⟨es, n, ⟨h1, rfl, rfl, h3⟩, h5, h6⟩

/-- all objects but the frame's own, listed -/
noncomputable def allO (h : Heap) (L : Addr) : List (Addr × Obj) := (List.range h.objs.size).filterMap fun a => if a = L then none else (h.get? a).map fun o => (a, o)
theorem mem_allO {h : Heap} {L : Addr} {p : Addr × Obj} : p ∈ allO h L ↔ h.get? p.1 = some p.2 ∧ p.1 ≠ L := by
  unfold allO
  rw [List.mem_filterMap]
  constructor
  · rintro ⟨a, _, e⟩
    split at e
    · cases e
    · rename_i ne
      obtain ⟨o, h1, rfl⟩ := Option.map_eq_some_iff.mp e
      exact ⟨h1, ne⟩
  · rintro ⟨h1, h2⟩
    exact ⟨p.1, List.mem_range.mpr (Heap.lt_size h1), by rw [if_neg h2, h1]; rfl⟩
theorem allO_nodup (h : Heap) (L : Addr) : ((allO h L).map (·.1)).Nodup := by
  have : (allO h L).Pairwise fun p q => p.1 ≠ q.1 := by
    unfold allO
    rw [List.pairwise_filterMap]
    refine List.Pairwise.imp_of_mem ?_ (List.nodup_range (n := h.objs.size))
    intro a b _ _ ne p hp q hq
    split at hp
    · cases hp
    · split at hq
      · cases hq
      · obtain ⟨o, _, rfl⟩ := Option.map_eq_some_iff.mp hp
        obtain ⟨o', _, rfl⟩ := Option.map_eq_some_iff.mp hq
        exact ne
  exact List.pairwise_map.mpr this
/-- the ledger, as the library's frames want it -/
theorem St.frAll (I : St g G O L m objs s) {i : Nat} {d : Addr} {P : OP} {o : Obj} (hi : objs[i]? = some (d, P)) (ho : s.heap.get? d = some o) : ∃ f pre post, Fr {} L s.heap f ∧ News {} L s.heap (pre ++ (d, o) :: post) ∧ (∀ p ∈ pre, p.1 ≠ d) ∧ (∀ p ∈ post, p.1 ≠ d) ∧
    ∀ (s' : Shared) (o' : Obj) (P' : OP), Fr {} L s'.heap f → News {} L s'.heap (pre ++ (d, o') :: post) → P' o' → s'.gens = s.gens → s'.os = s.os → St g G O L m (objs.set i (d, P')) s' := by
  obtain ⟨f, hf, hm⟩ := I.ns
  have hd := I.led _ (List.mem_of_getElem? hi)
  have hmem : (d, o) ∈ allO s.heap L := mem_allO.mpr ⟨ho, hd.2.1⟩
  obtain ⟨pre, post, e⟩ := List.append_of_mem hmem
  have nd := allO_nodup s.heap L
  rw [e, List.map_append, List.map_cons] at nd
  have emp : ∀ b, ({} : Heap).get? b = none := fun b => by
    cases q : ({} : Heap).get? b with
    | none => rfl
    | some o => exact absurd (Heap.lt_size q) (by simp)
  have n1 : ∀ p ∈ pre, p.1 ≠ d := fun p hp q => (List.nodup_append.mp nd).2.2 _ (List.mem_map_of_mem hp) d (.head _) q
  have n2 : ∀ p ∈ post, p.1 ≠ d := fun p hp q => (List.nodup_cons.mp (List.nodup_append.mp nd).2.1).1 (List.mem_map.mpr ⟨p, hp, q⟩)
  refine ⟨f, pre, post, ⟨hf, fun b o e => (by rw [emp] at e; cases e), Nat.zero_le _⟩, fun p hp => ?_, n1, n2, fun s' o' P' F' N' hP hg ho' => ?_⟩
  · rw [← e] at hp
    have := mem_allO.mp hp
    exact ⟨this.1, this.2, emp _⟩
  · have kp : ∀ b ob, b ≠ L → b ≠ d → s.heap.get? b = some ob → s'.heap.get? b = some ob := fun b ob h1 h2 h3 => by
      have : (b, ob) ∈ allO s.heap L := mem_allO.mpr ⟨h3, h1⟩
      rw [e] at this
      rcases List.mem_append.mp this with q | q
      · exact (N' (b, ob) (List.mem_append_left _ q)).1
      · rcases List.mem_cons.mp q with q | q
        · cases q; exact absurd rfl h2
        · exact (N' (b, ob) (List.mem_append_right _ (.tail _ q))).1
    have hd' := (N' (d, o') (List.mem_append_right _ (.head _))).1
    refine ⟨⟨f, F'.ns, hm⟩, fun b ob e' => kp b ob ?_ ?_ (I.keep b ob e'), I.newL, fun p hp => ?_, by rw [map_set_fst hi]; exact I.nd, hg.trans I.gens, ho'.trans I.os⟩
    · rintro rfl; rw [I.newL] at e'; cases e'
    · rintro rfl; rw [hd.2.2] at e'; cases e'
    · obtain ⟨j, hj⟩ := List.mem_iff_getElem?.mp hp
      rw [List.getElem?_set] at hj
      split at hj
      · rename_i e; subst e
        split at hj
        · cases hj; exact ⟨⟨o', hd', hP⟩, hd.2⟩
        · cases hj
      · rename_i ne
        obtain ⟨⟨ob, e1, e2⟩, e3, e4⟩ := I.led p (List.mem_of_getElem? hj)
        exact ⟨⟨ob, kp _ _ e3 (Ne.symm (nodup_ne I.nd hi hj ne)) e1, e2⟩, e3, e4⟩

theorem getA {i j : Nat} {x dx C : Addr} {as : List (Str × VP)} {name : Str} {P : VP} {expr : Bool} {Q : Value → Shared → Prop} (I : St g G O L m objs s) (hW : W w g) (hi : objs[i]? = some (x, isO (instObj C dx))) (hj : objs[j]? = some (dx, isA as))
    (hg : plainGet (KF w) C name = true) (hh : hasDictIn (KF w) C = true) (ha : findIn (KF w) (.ref C) name = some none) (hl : as.lookup name = some P) (hv : ∀ v, P v → handedIn v = true) (h : ∀ v s', P v → St g G O L m objs s' → Q v s') :
    wpAny (model prog w) A (getAttr (.ref x) name expr) Q E s := by
  obtain ⟨es, n, hI, h1, h2⟩ := I.inst hi hj
  obtain ⟨v, h3, h4⟩ := isA_get h1 h2 name P hl
  exact get_value (I.inK hW) hI (plainGet_of hg).1 (findObj_own hh ha rfl h3) (hv v h4) (h v _ h4 (I.tk _))

theorem setA {i j : Nat} {x dx C : Addr} {as : List (Str × VP)} {name : Str} {P : VP} {v : Value} {Q : Unit → Shared → Prop} (I : St g G O L m objs s) (hW : W w g) (hi : objs[i]? = some (x, isO (instObj C dx))) (hj : objs[j]? = some (dx, isA as))
    (hs : findIn (KF w) (.ref C) "__setattr__" = some (some (.builtin "object.__setattr__"))) (hp : plainOver (KF w) C = true) (ht : takerIn (KF w) C name = some none) (hh : hasDictIn (KF w) C = true) (hz : as.length ≤ 900) (hP : P v)
    (h : ∀ s', St g G O L m (objs.set j (dx, isA (updA name P as))) s' → Q () s') : wpAny (model prog w) A (setAttr (.ref x) name v) Q E s := by
  obtain ⟨es, n, hI, h1, h2⟩ := I.inst hi hj
  have hdx : s.heap.get? dx = some (dictOf es n) := hI.dict
  obtain ⟨f, pre, post, F, N, n1, n2, back⟩ := I.frAll hj hdx
  have hget : (lookIn name (dictOf es n)).isSome = true := by
    rw [lookIn_dict]
    cases q : as.lookup name with
    | none => rw [isA_none h1 h2 name q]; rfl
    | some P' => obtain ⟨v', h3, _⟩ := isA_get h1 h2 name P' q; rw [h3]; rfl
  have hput := isA_put h1 h2 name P v (PyData.keyHash w.params name) (s.toks + 1) hP
  refine set_plain (I.inK hW) hI hs (osa_dict (s := { s with toks := s.toks + 1 }) F N (I.inK hW) hI rfl hp ht hh hget n1 n2 (by rw [putName_dict]) rfl ?_ fun h' F' N' => h _ (back _ _ _ F' N' ⟨_, _, rfl, hput.1, hput.2⟩ rfl rfl))
  rw [hput.1]
  have : ∀ l : List (Str × VP), (updA name P l).length ≤ l.length + 1 := by
    intro l
    induction l with
    | nil => simp [updA]
    | cons y r ih => unfold updA; split <;> simp <;> omega
  have := this as
  omega

/-- a node's record: node, npredecessors, successors -/
noncomputable def isN (k : Int) (np : Int) (sa da : Addr) : OP := fun o => ∃ t u, o = { cls := .ref 163, dict := some da, data := .plain, slots := #[some (.int k t), some (.int np u), some (.ref sa)] }
end
end Mine
end
-- MO2
section
open PySem PySem.W PyProof.Rows
set_option maxRecDepth 100000
set_option maxHeartbeats 4000000
namespace Mine

/-- a node's record with its slots -/
noncomputable def isNR (sl : List (Option VP)) (da : Addr) : OP := fun o => ∃ vs : List (Option Value), o = { cls := .ref 163, dict := some da, data := .plain, slots := vs.toArray } ∧ vs.length = sl.length ∧ ∀ (i : Nat) (P : VP), sl[i]? = some (some P) → ∃ v, vs[i]? = some (some v) ∧ P v

section
variable {prog : Program} {w : World} {A : Around} {E : Value → Shared → Prop} {s : Shared}
variable {g : Heap} {G : Array GenState} {O : OsState} {L : Addr} {m : List (Str × VP)} {objs : List (Addr × OP)} {env : Env} {names : List (Str × NameKind)} {cs : List (Str × Addr)}

theorem inst_isNR {sl : List (Option VP)} {i j : Nat} {x da : Addr} (I : St g G O L m objs s) (hi : objs[i]? = some (x, isNR sl da)) (hj : objs[j]? = some (da, isO emptyDict)) :
    ∃ vs : List (Option Value), InstAt s.heap x { cls := .ref 163, dict := some da, data := .plain, slots := vs.toArray } 163 (some emptyDict) ∧ vs.length = sl.length ∧ ∀ (i : Nat) (P : VP), sl[i]? = some (some P) → ∃ v, vs[i]? = some (some v) ∧ P v := by
  obtain ⟨o, h1, vs, rfl, h3, h4⟩ := I.obj hi
  obtain ⟨o', h5, h6⟩ := I.obj hj
  have h6' : o' = emptyDict := h6
  subst h6'
  exact ⟨vs, ⟨h1, rfl, rfl, h5⟩, h3, h4⟩

theorem slotGet {sl : List (Option VP)} {i j : Nat} {x da p : Addr} {name : Str} {k : Nat} {P : VP} {expr : Bool} {Q : Value → Shared → Prop} (I : St g G O L m objs s) (hW : W w g) (hi : objs[i]? = some (x, isNR sl da)) (hj : objs[j]? = some (da, isO emptyDict))
    (hf : ∀ od, findObj (KF w) 163 od name = some (.bind (.builtin "member_descriptor.__get__") (.ref p))) (hs : slotIn (KF w) p 163 = some k) (hk : sl[k]? = some (some P)) (hv : ∀ v, P v → handedIn v = true) (h : ∀ v s', P v → St g G O L m objs s' → Q v s') :
    wpAny (model prog w) A (getAttr (.ref x) name expr) Q E s := by
  obtain ⟨vs, hI, h1, h2⟩ := inst_isNR I hi hj
  obtain ⟨v, h3, h4⟩ := h2 k P hk
  refine get_bind (I.inK hW) hI (by rfl) (hf _) (by rfl) (wpAny_call (slot_get (i := k) (v := v) (I.inK hW) hI hs (by simp [h3]) ?_))
  dsimp only
  rw [handedOut_of (hv v h4)]
  exact wpAny_pure (h v _ h4 (I.tk _))

theorem slotSet {sl : List (Option VP)} {i j : Nat} {x da p : Addr} {name : Str} {k : Nat} {P : VP} {v : Value} {Q : Unit → Shared → Prop} (I : St g G O L m objs s) (hW : W w g) (hi : objs[i]? = some (x, isNR sl da)) (hj : objs[j]? = some (da, isO emptyDict))
    (ht : takerIn (KF w) 163 name = some (some (.ref p))) (htp : typeIn (KF w) (.ref p) = some (.type "member_descriptor")) (hs : slotIn (KF w) p 163 = some k) (hk : k < 1000) (hP : P v)
    (h : ∀ s', St g G O L m (objs.set i (x, isNR ((sl ++ List.replicate (k + 1 - sl.length) none).set k (some P)) da)) s' → Q () s') : wpAny (model prog w) A (setAttr (.ref x) name v) Q E s := by
  obtain ⟨vs, hI, h1, h2⟩ := inst_isNR I hi hj
  obtain ⟨f, pre, post, F, N, n1, n2, back⟩ := I.frAll hi hI.at_
  refine set_plain (I.inK hW) hI (by rfl) (osa_descr _root_.PySem.W.KF.slot_mset (s := { s with toks := s.toks + 1 }) (I.inK hW) hI (by rfl) ht htp
    (slot_set (ox' := { cls := .ref 163, dict := some da, data := .plain, slots := ((vs ++ List.replicate (k + 1 - vs.length) none).set k (some v)).toArray }) F N (I.inK hW) hI hs hk n1 n2 ?_ rfl fun h' F' N' => h _ (back _ _ _ F' N' ?_ rfl rfl)))
  · have e : (vs.toArray ++ Array.replicate (k + 1 - vs.length) none).setIfInBounds k (some v) = ((vs ++ List.replicate (k + 1 - vs.length) none).set k (some v)).toArray := by
      apply Array.ext'
      simp
    simpa using e
  · refine ⟨_, rfl, by simp [h1], fun a P' ha => ?_⟩
    rw [List.getElem?_set] at ha ⊢
    by_cases e : k = a
    · subst e
      rw [if_pos rfl] at ha ⊢
      have hl : k < (vs ++ List.replicate (k + 1 - vs.length) none).length := by simp; omega
      rw [if_pos (by simp; omega)] at ha
      rw [if_pos hl]
      cases ha
      exact ⟨v, rfl, hP⟩
    · rw [if_neg e] at ha ⊢
      rw [List.getElem?_append] at ha ⊢
      rw [h1]
      split at ha
      · rename_i hl; rw [if_pos hl]; exact h2 a P' ha
      · rw [List.getElem?_replicate] at ha
        split at ha <;> cases ha

/-- a method of an own object -/
theorem getM {i j : Nat} {x dx C f : Addr} {as : List (Str × VP)} {name : Str} {pl : Sem Bool} {Q : Value × List Value → Shared → Prop} (I : St g G O L m objs s) (hW : W w g) (hi : objs[i]? = some (x, isO (instObj C dx))) (hj : objs[j]? = some (dx, isA as))
    (hg : plainGet (KF w) C name = true) (hf : findIn (KF w) (.ref C) name = some (some (.ref f))) (ht : isFn (KF w) (.ref f) = true) (hl : as.lookup name = none) (h : Q (.ref f, [.ref x]) s) :
    wpAny (model prog w) A (getMethod (.ref x) name pl) Q E s := by
  obtain ⟨es, n, hI, h1, h2⟩ := I.inst hi hj
  exact method_fn (I.inK hW) hI (plainGet_of hg).1 (plainGet_of hg).2 hf (beq_iff_eq.mp ht) (by show (lookIn name (dictOf es n)).map _ = _; rw [lookIn_dict, isA_none h1 h2 name hl]; rfl) h

/-- a bound method as a value -/
theorem getBM {i j : Nat} {x dx C f : Addr} {as : List (Str × VP)} {name : Str} {expr : Bool} {Q : Value → Shared → Prop} (I : St g G O L m objs s) (hW : W w g) (hi : objs[i]? = some (x, isO (instObj C dx))) (hj : objs[j]? = some (dx, isA as))
    (hg : plainGet (KF w) C name = true) (hf : ∀ od, lookIn name od = some none → findObj (KF w) C (some od) name = some (.bind (.builtin "function.__get__") (.ref f))) (ht : isFn (KF w) (.ref f) = true) (hl : as.lookup name = none)
    (h : ∀ q s', St g G O L m (objs ++ [(q, isO (methodObj (.ref f) (.ref x)))]) s' → Q (.ref q) s') :
    wpAny (model prog w) A (getAttr (.ref x) name expr) Q E s := by
  obtain ⟨es, n, hI, h1, h2⟩ := I.inst hi hj
  refine get_bind (I.inK hW) hI (plainGet_of hg).1 (hf _ (by rw [lookIn_dict, isA_none h1 h2 name hl])) (plainGet_of hg).2 (wpAny_call (fn_get (I.inK hW) (beq_iff_eq.mp ht) ?_))
  dsimp only
  refine wpAny_pure (h _ _ ?_)
  exact I.push (o := methodObj (.ref f) (.ref x)) rfl rfl rfl rfl rfl

/-- call of a def, the binding given by a walk -/
theorem code_fnV {f : Addr} {fd : FuncData} {o : Obj} {body : List Stmt} {args : List Value} {R : Result → Shared → Prop}
    (hW : W w g) (I0 : St g G O L m objs s) (hroom : A.depth < recursionLimit)
    (ho : (KF w).lookup f = some o) (hdata : o.data = .func fd) (hbody : fd.body = .stmts body) (hcd : codeIn (KF w) fd.code fd.qualname = true)
    (hcell : (fd.scope.names.all fun x => x.2 != .cell) = true)
    (h : wpAny (model prog w) A.in1 (bindArgs fd ⟨args, []⟩) (fun bs s₁ => ∃ objs₁, St g G O L m objs₁ s₁ ∧ (bs.all fun x => fd.scope.names.lookup x.1 == some .local) = true ∧
      ∀ g' L' s' env, EnvIs env L' fd.scope.names fd.closure → W w g' → St g' G O L' (bs.reverse.map fun b => (b.1, isV b.2)) objs₁ s' → ∀ E',
      wpAny (model prog w) (A.deeper env) (execs body env) (fun fl s₂ => ∃ m₂ objs₂, St g' G O L' m₂ objs₂ s₂ ∧ (St g G O L m objs₂ s₂ → R (.ok (.ret (flowVal fl))) s₂)) E' s') (fun e s' => R (.error e) s') s)
    (hco : fd.scope.isCoroutine = false := by rfl) (hgen : fd.scope.isGenerator = false := by rfl) (hk : fd.scope.kind = .function := by rfl)
    (hgl : fd.globals = mainGlobals := by rfl) (hbl : fd.builtins = builtinsNs := by rfl) :
    codeAny (model prog w) A (.call (.ref f) ⟨args, []⟩) R s := by
  have hWs : W w s.heap := hW.keeps I0.keep
  refine codeAny_call_function hroom (hWs.k _ _ ho) hdata hco hgen hbody (codeRec_of hWs.k hcd) (wpAny_mono h (fun bs s₁ ⟨objs₁, I, hloc, h⟩ => ?_) fun _ _ x => x)
  have hWs1 : W w s₁.heap := hW.keeps I.keep
  refine wpAny_newFunctionEnv (fun x hx => by simpa using List.all_eq_true.mp hcell x hx) (fun x hx => by simpa using List.all_eq_true.mp hloc x hx) (fun h₀ hns hsb => ?_) hk
  refine ⟨hWs1.lim.fresh _ hsb, codeAny_func ?_⟩
  have hk₀ : ∀ b o, s₁.heap.get? b = some o → h₀.get? b = some o := fun b o e => hsb.extBut b o (Nat.ne_of_lt (Heap.lt_size e)) (Heap.get?_push_of_some _ e)
  have I' : St (under s₁ objs₁) G O s₁.heap.objs.size (bs.reverse.map fun b => (b.1, isV b.2)) objs₁ { s₁ with heap := h₀, toks := s₁.toks + bs.length } := by
    refine I.enter hns (fun x P hx => ?_) hk₀ (Nat.le_refl _) rfl rfl
    have : ∀ (l : List (Str × Value)) x P, (l.map fun b => (b.1, isV b.2)).lookup x = some P → ∃ v, l.lookup x = some v ∧ P v := by
      intro l
      induction l with
      | nil => intro x P h; cases h
      | cons b r ih =>
        intro x P h
        rw [List.map_cons] at h
        rcases lookup_up h with ⟨rfl, rfl⟩ | ⟨ne, h⟩
        · exact ⟨b.2, by rw [List.lookup_cons, beq_self_eq_true], rfl⟩
        · obtain ⟨v, h1, h2⟩ := ih x P h
          exact ⟨v, by rw [List.lookup_cons, show (x == b.1) = false from by simpa using ne]; exact h1, h2⟩
    exact this _ x P hx
  refine wpAny_mono (h _ _ _ _ ⟨hk, rfl, rfl, hgl, hbl, rfl⟩ (hW.keeps I.stays) I' _) (fun fl s₂ ⟨m₂, objs₂, h1, h2⟩ => ?_) fun _ _ x => x
  have := h2 (I.leave h1)
  cases fl <;> exact this

/-- an object of a class is made -/
theorem makeI {C fI : Addr} {args : List Value} {Q : Value → Shared → Prop} (I : St g G O L m objs s) (hW : W w g) (hm : makesIn (KF w) C = true)
    (hi : findIn (KF w) (.ref C) "__init__" = some (some (.ref fI))) (hf : typeIn (KF w) (.ref fI) = some (.type "function"))
    (h : ∀ x dx s', St g G O L m (objs ++ [(dx, isO emptyDict), (x, isO (instObj C dx))]) s' → ∀ E' : Value → Shared → Prop,
      codeAny (model prog w) (A.under (.builtin "type.__call__" ⟨.ref C :: args, []⟩)) (.call (.ref fI) ⟨.ref x :: args, []⟩) (fun r s' => match r with | .ok (.ret v) => v = .none ∧ Q (.ref x) s' | .ok _ => False | .error e => E' e s') s') :
    wpAny (model prog w) A (call (.ref C) args) Q E s := by
  obtain ⟨hh, gg, d, t, os⟩ := s
  refine wpAny_call (make_core (makes_of (I.inK hW) hm) (looks_findIn (I.inK hW) hi) (fun self => bind_fn (I.inK hW) self hf) (.inl rfl) ?_)
  have I1 := I.push (o := emptyDict) (P := isO emptyDict) (s' := ⟨hh.push emptyDict, gg, d, t, os⟩) rfl rfl rfl rfl rfl
  have I2 := I1.push (o := instObj C hh.objs.size) (P := isO (instObj C hh.objs.size)) (s' := ⟨(hh.push emptyDict).push (instObj C hh.objs.size), gg, d, t, os⟩) rfl rfl rfl rfl rfl
  rw [List.append_assoc] at I2
  have e : (hh.push emptyDict).objs.size = hh.objs.size + 1 := Heap.size_push ..
  dsimp only at I2
  rw [e] at I2
  refine codeAny_mono (h _ _ _ I2 (fun e s' => E e s')) fun r s' z => ?_
  unfold InitBack
  rcases r with e | (v | _ | _ | _) <;> exact z

/-- o.name(args, *more) -/
theorem starCall {o : Expr} {name : Str} {apos pos : Pos} {args : List Expr} {Q : Value → Shared → Prop}
    (h : wpAny (model prog w) A (eval o env) (fun ov s₁ => wpAny (model prog w) A (getAttr ov name true) (fun f s₂ => wpAny (model prog w) A (callWith pos f [] (backTo pos (starEach args env)) []) Q E s₂) E s₁) E s)
    (he : eval (.Call (.Attribute o name apos) args [] pos) env = (do
      let ov ← eval o env
      standAt apos.atName
      let (f, first) ← holding [ov] (do pure (← getAttr ov name true, []))
      callWith pos f first (backTo pos (starEach args env)) []) := by rfl) :
    wpAny (model prog w) A (eval (.Call (.Attribute o name apos) args [] pos) env) Q E s := by
  rw [he]
  refine wpAny_bind (wpAny_mono h (fun ov s₁ h₁ => wpAny_bind (wpAny_standAt (wpAny_bind (wpAny_holding (wpAny_bind (wpAny_mono h₁ (fun f s₂ h₂ => wpAny_pure ?_) fun _ _ x => x)))))) fun _ _ x => x)
  exact h₂

theorem starM {q f x : Addr} {pos : Pos} {e : Expr} {rest : List Expr} {Q : Value → Shared → Prop} (hf : fnIn (KF w) f = true)
    (h : wpAny (model prog w) A (spliced (backTo pos (starEach (e :: rest) env))) (fun vs s₁ => MethP (KF w) q f (.ref x) s₁.heap ∧ wpAny (model prog w) A (call (.ref q) vs) Q E s₁) E s)
    (he : starEach (e :: rest) env = (false, eval e env) :: starEach rest env := by rfl) (hst : (backTo pos (starEach rest env)).any (·.1) = true := by rfl) :
    wpAny (model prog w) A (callWith pos (.ref q) [] (backTo pos (starEach (e :: rest) env)) []) Q E s := by
  rw [he] at h ⊢
  exact ks_call (by show (false || (backTo pos (starEach rest env)).any (·.1)) = true; rw [hst]; rfl) (keeps_M hf) (Calls.evalArgs_plain h)

theorem starL {i : Nat} {l : Addr} {ps : List VP} {Q : List Value → Shared → Prop} (I : St g G O L m objs s) (hi : objs[i]? = some (l, isL ps)) (hz : ps.length ≤ 1000) (h : ∀ vs s', Fit ps vs → St g G O L m objs s' → Q vs s') :
    StarOf (model prog w) A E (.ref l) Q s := by
  obtain ⟨vs, n, hl, hf⟩ := I.list hi
  have hT' : s.TypeIs (.ref l) "list" := ⟨_, hl, rfl⟩
  have z : wpAny (model prog w) A (collect (.ref l)) Q E s := by
    refine wpAny_collect_seq l (.inl rfl) hl rfl rfl (fun h' hk => h _ _ (by simpa using hf) (I.kept hk rfl rfl)) (by rw [List.size_toArray, ← hf.1, sizeLine_eq]; omega)
  unfold StarOf notIterableAtAll
  exact wpAny_bind (wpAny_specialOf hT' PySem.F.slot_list_iter.lookup (wpAny_pure ⟨rfl, z⟩))

end
end Mine
end
-- MD2
section
open PySem PySem.W PyProof.Rows
set_option maxRecDepth 100000
set_option maxHeartbeats 4000000
namespace Mine

/-- the dict at a given epoch -/
noncomputable def isDE (prog : Program) (w : World) (ps : List (Int × VP)) (ep : Nat) : OP := fun o => ∃ kvs : List (Int × Value), (∃ es, o.ExactDict ∧ o.data = .dict es ep ∧ PySem.KeysOf (intKind prog w) es ∧ Pairs (intKind prog w) es.toList kvs ∧ (kvs.map (·.1)).Nodup) ∧
  kvs.map (·.1) = ps.map (·.1) ∧ Fit (ps.map (·.2)) (kvs.map (·.2))
theorem isDE.weak {prog : Program} {w : World} {ps : List (Int × VP)} {ep : Nat} {o : Obj} (h : isDE prog w ps ep o) : isD prog w ps o := by
  obtain ⟨kvs, ⟨es, h1⟩, h2⟩ := h
  exact ⟨kvs, ⟨es, ep, h1⟩, h2⟩
noncomputable def isKit (d : Addr) (i n ep : Nat) : OP := fun o => o.cls = .type "dict_keyiterator" ∧ o.data = .fields #[.ref d, .int i 0, .int n 0, .int ep 0]
noncomputable def isVit (d : Addr) (i n ep : Nat) : OP := fun o => o.cls = .type "dict_valueiterator" ∧ o.data = .fields #[.ref d, .int i 0, .int n 0, .int ep 0]
noncomputable def isIit (d : Addr) (i n ep : Nat) : OP := fun o => ∃ ok ov, o = { cls := .type "dict_itemiterator", dict := none, data := .fields #[.none, .bool false, .ref d, .int i 0, .int n 0, .int ep 0, ok, ov], slots := #[] }
noncomputable def isVw (d : Addr) (T : String) : OP := fun o => o = { cls := .type T, data := .fields #[.ref d] }

section
variable {prog : Program} {w : World} {A : Around} {E : Value → Shared → Prop} {s : Shared}
variable {g : Heap} {G : Array GenState} {O : OsState} {L : Addr} {m : List (Str × VP)} {objs : List (Addr × OP)} {env : Env} {names : List (Str × NameKind)} {cs : List (Str × Addr)}

theorem int_of_is {k : Int} {v : Value} (h : (intKind prog w).is k v = true) : isI k v := Value.isInt_shape h

theorem St.fixD (I : St g G O L m objs s) {i : Nat} {d : Addr} {ps : List (Int × VP)} (hi : objs[i]? = some (d, isD prog w ps)) : ∃ ep, St g G O L m (objs.set i (d, isDE prog w ps ep)) s := by
  obtain ⟨o, h1, kvs, ⟨es, ep, r⟩, h3⟩ := I.obj hi
  exact ⟨ep, I.upd hi ⟨rfl, fun b _ => rfl⟩ ⟨o, h1, kvs, ⟨es, r⟩, h3⟩ rfl rfl rfl⟩
theorem St.weakD (I : St g G O L m objs s) {i : Nat} {d : Addr} {ps : List (Int × VP)} {ep : Nat} (hi : objs[i]? = some (d, isDE prog w ps ep)) : St g G O L m (objs.set i (d, isD prog w ps)) s := by
  obtain ⟨o, h1, h2⟩ := I.obj hi
  exact I.upd hi ⟨rfl, fun b _ => rfl⟩ ⟨o, h1, h2.weak⟩ rfl rfl rfl

theorem St.memDE (I : St g G O L m objs s) {d : Addr} {ps : List (Int × VP)} {ep : Nat} (hi : (d, isDE prog w ps ep) ∈ objs) : ∃ kvs, s.heap.DictAt (intKind prog w) d kvs ep ∧ kvs.map (·.1) = ps.map (·.1) ∧ Fit (ps.map (·.2)) (kvs.map (·.2)) ∧ kvs.length = ps.length := by
  obtain ⟨⟨o, h1, kvs, ⟨es, r⟩, h3, h4⟩, _⟩ := I.led _ hi
  exact ⟨kvs, ⟨o, es, h1, r⟩, h3, h4, by have := congrArg List.length h3; simpa using this⟩

theorem kv_at {ps : List (Int × VP)} {kvs : List (Int × Value)} {k : Nat} (hk : k < ps.length) (h3 : kvs.map (·.1) = ps.map (·.1)) (h4 : Fit (ps.map (·.2)) (kvs.map (·.2))) : ∃ v, kvs[k]? = some (ps[k].1, v) ∧ ps[k].2 v := by
  have hl : kvs.length = ps.length := by have := congrArg List.length h3; simpa using this
  have hk' : k < kvs.length := by omega
  refine ⟨kvs[k].2, ?_, h4.2 k _ _ (by rw [List.getElem?_map, List.getElem?_eq_getElem hk]; rfl) (by rw [List.getElem?_map, List.getElem?_eq_getElem hk']; rfl)⟩
  have e : (kvs.map (·.1))[k]? = (ps.map (·.1))[k]? := by rw [h3]
  rw [List.getElem?_map, List.getElem?_map, List.getElem?_eq_getElem hk, List.getElem?_eq_getElem hk'] at e
  have e' : kvs[k].1 = ps[k].1 := Option.some.inj e
  rw [List.getElem?_eq_getElem hk', ← e']

theorem It.keys (hh : A.handled = none) (it d : Addr) (ps : List (Int × VP)) (ep : Nat) : It prog w A it [(d, isDE prog w ps ep)] ps.length (fun k v => ∀ p, ps[k]? = some p → isI p.1 v) (fun k => [(it, isKit d k ps.length ep)]) where
  next := fun {g G O L m objs s Q E} k hk hsrc I hQ => by
    obtain ⟨kvs, hd, h3, h4, hl⟩ := I.memDE (List.mem_append_left _ (hsrc _ (.head _)))
    obtain ⟨⟨o, h1, h2, h2'⟩, _⟩ := I.led _ last_mem
    obtain ⟨v, hv, hP⟩ := kv_at hk h3 h4
    refine wpAny_pyNext_dict_item (it := it) (d := d) (i := k) (ep := ep) (knd := intKind prog w) (by rw [hl]; exact ⟨o, h1, h2, h2'⟩) hd hv fun key h' hkey ⟨o', a1, a2⟩ hs => ?_
    refine hQ key _ (fun p e => ?_) ?_
    · rw [List.getElem?_eq_getElem hk] at e; cases e; exact int_of_is hkey
    · rw [hl] at a2
      have := I.upd (P' := isKit d (k + 1) ps.length ep) last_get hs ⟨o', a1, a2⟩ (s' := { s with heap := h' }) rfl rfl rfl
      rwa [last_set] at this
  done := fun {g G O L m objs s Q E} hsrc I hQ => by
    obtain ⟨kvs, hd, h3, h4, hl⟩ := I.memDE (List.mem_append_left _ (hsrc _ (.head _)))
    obtain ⟨⟨o, h1, h2, h2'⟩, _⟩ := I.led _ last_mem
    exact wpAny_pyNext_dict_end hh (it := it) (d := d) (i := ps.length) (ep := ep) (knd := intKind prog w) (by rw [hl]; exact ⟨o, h1, h2, h2'⟩) hd (by simp [hl]) fun h' hs => hQ _ (I.dropLast hs rfl rfl rfl)
  self := fun {g G O L m objs s Q E} k I h => by
    obtain ⟨⟨o, h1, h2, h3⟩, _⟩ := I.led _ last_mem
    exact wpAny_pyIter_keyiter (it := it) (d := d) (i := k) ⟨o, h1, h2, h3⟩ h

theorem It.vals (hh : A.handled = none) (it d : Addr) (ps : List (Int × VP)) (ep : Nat) : It prog w A it [(d, isDE prog w ps ep)] ps.length (fun k v => ∀ p, ps[k]? = some p → p.2 v) (fun k => [(it, isVit d k ps.length ep)]) where
  next := fun {g G O L m objs s Q E} k hk hsrc I hQ => by
    obtain ⟨kvs, hd, h3, h4, hl⟩ := I.memDE (List.mem_append_left _ (hsrc _ (.head _)))
    obtain ⟨⟨o, h1, h2, h2'⟩, _⟩ := I.led _ last_mem
    obtain ⟨v, hv, hP⟩ := kv_at hk h3 h4
    refine wpAny_pyNext_values_item (it := it) (d := d) (i := k) (ep := ep) (knd := intKind prog w) (by rw [hl]; exact ⟨o, h1, h2, h2'⟩) hd hv fun h' ⟨o', a1, a2⟩ hs => ?_
    refine hQ v _ (fun p e => ?_) ?_
    · rw [List.getElem?_eq_getElem hk] at e; cases e; exact hP
    · rw [hl] at a2
      have := I.upd (P' := isVit d (k + 1) ps.length ep) last_get hs ⟨o', a1, a2⟩ (s' := { s with heap := h' }) rfl rfl rfl
      rwa [last_set] at this
  done := fun {g G O L m objs s Q E} hsrc I hQ => by
    obtain ⟨kvs, hd, h3, h4, hl⟩ := I.memDE (List.mem_append_left _ (hsrc _ (.head _)))
    obtain ⟨⟨o, h1, h2, h2'⟩, _⟩ := I.led _ last_mem
    exact wpAny_pyNext_values_end hh (it := it) (d := d) (i := ps.length) (ep := ep) (knd := intKind prog w) (by rw [hl]; exact ⟨o, h1, h2, h2'⟩) hd (by simp [hl]) fun h' hs => hQ _ (I.dropLast hs rfl rfl rfl)
  self := fun {g G O L m objs s Q E} k I h => by
    obtain ⟨⟨o, h1, h2, h3⟩, _⟩ := I.led _ last_mem
    exact wpAny_pyIter_valiter (it := it) (d := d) (i := k) ⟨o, h1, h2, h3⟩ h

theorem pyIter_itemiter {it d : Addr} {i n ep : Nat} {ok ov : Value} {Q : Value → Shared → Prop} (hit : IsItemIter s.heap it d i n ep ok ov) (h : Q (.ref it) s) : wpAny (model prog w) A (pyIter (.ref it)) Q E s := by
  have hT : s.TypeIs (.ref it) "dict_itemiterator" := ⟨_, hit, rfl⟩
  refine wpAny_pyIter_slot hT F.slot_dict_itemiterator_iter (wpAny_call_entry F.slot_dict_itemiterator_iter hT (show entryFor table "dict_itemiterator.__iter__" = some Builtin.«dict_keyiterator.__iter__» from entryFor_alias (id' := "dict_keyiterator.__iter__") (by kernel_rfl) rfl (by decide +kernel) (by kernel_rfl)) ?_ (F.args_dict_itemiterator_iter_1 _))
  show wpAny _ _ (ret (.ref it)) _ _ s
  exact wpAny_pure ⟨_, rfl, "dict_itemiterator", _, hT, F.slot_dict_itemiterator_next.lookup, h⟩

theorem It2.items (hh : A.handled = none) (it d : Addr) (ps : List (Int × VP)) (ep : Nat) : It2 prog w A it [(d, isDE prog w ps ep)] ps.length (fun k v => ∀ p, ps[k]? = some p → isI p.1 v) (fun k v => ∀ p, ps[k]? = some p → p.2 v) (fun k => [(it, isIit d k ps.length ep)]) where
  next := fun {g G O L m objs s elts x1 pos R Q E} k hk hsrc I hQ => by
    obtain ⟨kvs, hd, h3, h4, hl⟩ := I.memDE (List.mem_append_left _ (hsrc _ (.head _)))
    obtain ⟨⟨o, h1, ok, ov, rfl⟩, _⟩ := I.led _ last_mem
    obtain ⟨v, hv, hP⟩ := kv_at hk h3 h4
    refine wpAny_pyNext_items_item (it := it) (d := d) (i := k) (ep := ep) (ok := ok) (ov := ov) (knd := intKind prog w) (by rw [hl]; exact h1) hd hv fun key h' hkey ho ht hsz hs => ?_
    refine wpAny_letOwnedTupleGo_items ho fun h'' ho' hs' => ?_
    have nit : s.heap.objs.size ≠ it := Ne.symm (Nat.ne_of_lt (Heap.lt_size h1))
    refine hQ _ key v _ (fun p e => ?_) (fun p e => ?_) ?_ ⟨_, (hs'.2 _ nit).trans ht, rfl, 0, rfl⟩
    · rw [List.getElem?_eq_getElem hk] at e; cases e; exact int_of_is hkey
    · rw [List.getElem?_eq_getElem hk] at e; cases e; exact hP
    · rw [hl] at ho'
      refine I.relay (J' := [(it, isIit d (k + 1) ps.length ep)]) rfl (fun b o hb e => ?_) (fun p hp => ?_) rfl rfl
      · have hb' : b ≠ it := by simpa using hb
        exact (hs'.2 b hb').trans (hs b o hb' e)
      · rw [List.mem_singleton.mp hp]
        exact ⟨_, ho', _, _, rfl⟩
  done := fun {g G O L m objs s Q E} hsrc I hQ => by
    obtain ⟨kvs, hd, h3, h4, hl⟩ := I.memDE (List.mem_append_left _ (hsrc _ (.head _)))
    obtain ⟨⟨o, h1, ok, ov, rfl⟩, _⟩ := I.led _ last_mem
    exact wpAny_pyNext_items_end hh (it := it) (d := d) (i := ps.length) (ep := ep) (ok := ok) (ov := ov) (knd := intKind prog w) (by rw [hl]; exact h1) hd (by simp [hl]) fun h' hs => hQ _ (I.dropLast hs rfl rfl rfl)
  self := fun {g G O L m objs s Q E} k I h => by
    obtain ⟨⟨o, h1, ok, ov, rfl⟩, _⟩ := I.led _ last_mem
    exact pyIter_itemiter h1 h

theorem St.dictE (I : St g G O L m objs s) {i : Nat} {d : Addr} {ps : List (Int × VP)} {ep : Nat} (hi : objs[i]? = some (d, isDE prog w ps ep)) : ∃ kvs, s.heap.DictAt (intKind prog w) d kvs ep ∧ kvs.length = ps.length := by
  obtain ⟨kvs, h1, _, _, h2⟩ := I.memDE (List.mem_of_getElem? hi)
  exact ⟨kvs, h1, h2⟩
theorem iterK {i : Nat} {d : Addr} {ps : List (Int × VP)} {ep : Nat} {Q : Value → Shared → Prop} (I : St g G O L m objs s) (hW : W w g) (hi : objs[i]? = some (d, isDE prog w ps ep)) (h : ∀ a s', St g G O L m (objs ++ [(a, isKit d 0 ps.length ep)]) s' → Q (.ref a) s') :
    wpAny (model prog w) A (pyIter (.ref d)) Q E s := by
  obtain ⟨kvs, h1, h2⟩ := I.dictE hi
  exact wpAny_pyIter_dict (knd := intKind prog w) (I.notSys hW hi) h1 (h _ _ (I.push rfl ⟨rfl, by rw [h2]; rfl⟩ rfl rfl rfl))
theorem iterVw {i j : Nat} {d v : Addr} {ps : List (Int × VP)} {ep : Nat} {Q : Value → Shared → Prop} (I : St g G O L m objs s) (hi : objs[i]? = some (d, isDE prog w ps ep)) (hj : objs[j]? = some (v, isVw d "dict_values")) (h : ∀ a s', St g G O L m (objs ++ [(a, isVit d 0 ps.length ep)]) s' → Q (.ref a) s') :
    wpAny (model prog w) A (pyIter (.ref v)) Q E s := by
  obtain ⟨kvs, h1, h2⟩ := I.dictE hi
  obtain ⟨o, h3, h4⟩ := I.obj hj
  have h4' : o = _ := h4
  subst h4'
  exact wpAny_pyIter_values (knd := intKind prog w) ⟨_, h3, rfl, rfl⟩ h1 (h _ _ (I.push rfl ⟨rfl, by rw [h2]; rfl⟩ rfl rfl rfl))
theorem iterIw {i j : Nat} {d v : Addr} {ps : List (Int × VP)} {ep : Nat} {Q : Value → Shared → Prop} (I : St g G O L m objs s) (hi : objs[i]? = some (d, isDE prog w ps ep)) (hj : objs[j]? = some (v, isVw d "dict_items")) (h : ∀ a s', St g G O L m (objs ++ [(a, isIit d 0 ps.length ep)]) s' → Q (.ref a) s') :
    wpAny (model prog w) A (pyIter (.ref v)) Q E s := by
  obtain ⟨kvs, h1, h2⟩ := I.dictE hi
  obtain ⟨o, h3, h4⟩ := I.obj hj
  have h4' : o = _ := h4
  subst h4'
  exact wpAny_pyIter_items (knd := intKind prog w) ⟨_, h3, rfl, rfl⟩ h1 (h _ _ (I.push rfl ⟨_, _, by rw [h2]; rfl⟩ rfl rfl rfl))

theorem valsM {pos : Pos} {i : Nat} {d : Addr} {ps : List (Int × VP)} {Q : Value → Shared → Prop} (I : St g G O L m objs s) (hW : W w g) (hi : objs[i]? = some (d, isD prog w ps)) (h : ∀ a s', St g G O L m (objs ++ [(a, isVw d "dict_values")]) s' → Q (.ref a) s') :
    MethodOn prog w A "values" pos (.ref d) [] Q E s := by
  obtain ⟨kvs, hd, h3, h4⟩ := I.dict hi
  exact ⟨"dict", "dict.values", F.plainAttrs_dict, F.slot_dict_values, F.type_dict_values, hd.typeIs, hd.mapOf.noDict,
    method_meetsIn F.slot_dict_values F.entry_dict_values rfl (PySem.evalArgs_none ⟨rfl, hd.typeIs, F.args_dict_values_1 _, _, meets_dict_values (intKind prog w) d (I.notSys hW hi), ⟨kvs, hd⟩, h _ _ (I.push rfl rfl rfl rfl rfl)⟩)⟩
theorem itemsM {pos : Pos} {i : Nat} {d : Addr} {ps : List (Int × VP)} {Q : Value → Shared → Prop} (I : St g G O L m objs s) (hW : W w g) (hi : objs[i]? = some (d, isD prog w ps)) (h : ∀ a s', St g G O L m (objs ++ [(a, isVw d "dict_items")]) s' → Q (.ref a) s') :
    MethodOn prog w A "items" pos (.ref d) [] Q E s := by
  obtain ⟨kvs, hd, h3, h4⟩ := I.dict hi
  exact ⟨"dict", "dict.items", F.plainAttrs_dict, F.slot_dict_items, F.type_dict_items, hd.typeIs, hd.mapOf.noDict,
    method_meetsIn F.slot_dict_items F.entry_dict_items rfl (PySem.evalArgs_none ⟨rfl, hd.typeIs, F.args_dict_items_1 _, _, meets_dict_items (intKind prog w) d (I.notSys hW hi), ⟨kvs, hd⟩, h _ _ (I.push rfl rfl rfl rfl rfl)⟩)⟩
/-- d.get(k), k an int -/
theorem getDM {pos : Pos} {e : Expr} {i : Nat} {d : Addr} {ps : List (Int × VP)} {Q : Value → Shared → Prop} (I : St g G O L m objs s) (hW : W w g) (hi : objs[i]? = some (d, isD prog w ps))
    (h : wpAny (model prog w) A (eval e env) (fun v s₁ => ∃ k t, v = .int k t ∧ St g G O L m objs s₁ ∧ (k ∉ ps.map (·.1) → ∀ s', St g G O L m objs s' → Q .none s') ∧ (∀ P, (k, P) ∈ ps → ∀ v s', P v → St g G O L m objs s' → Q v s')) E s) :
    MethodOn prog w A "get" pos (.ref d) [(false, eval e env)] Q E s := by
  obtain ⟨kvs, hd, h3, h4⟩ := I.dict hi
  refine ⟨"dict", "dict.get", F.plainAttrs_dict, F.slot_dict_get, F.type_dict_get, hd.typeIs, hd.mapOf.noDict,
    wpAny_dict_get1 (knd := intKind prog w) (I.notSys hW hi) (wpAny_mono h (fun v s₁ ⟨k, t, e, I1, hn, hs⟩ => ?_) fun _ _ x => x)⟩
  subst e
  obtain ⟨kvs1, hd1, h31, h41⟩ := I1.dict hi
  refine ⟨k, _, intKind_is prog w k t, hd1.mapOf, ?_⟩
  by_cases hk : k ∈ ps.map (·.1)
  · obtain ⟨⟨k', P⟩, hp, e⟩ := List.mem_map.mp hk
    have e' : k' = k := e
    subst e'
    obtain ⟨v, h5, h6⟩ := find_of h31 h41 hp (I1.dictNd hi)
    rw [h5]; exact hs P hp v _ h6 (I1.tk _)
  · rw [find_none h31 hk]; exact hn hk _ (I1.tk _)
theorem delD {i : Nat} {d : Addr} {ps : List (Int × VP)} {k : Int} {t : Tok} {P : VP} {Q : Unit → Shared → Prop} (I : St g G O L m objs s) (hi : objs[i]? = some (d, isD prog w (ps ++ [(k, P)]))) (hz : ps.length ≤ 1000)
    (h : ∀ s', St g G O L m (objs.set i (d, isD prog w ps)) s' → Q () s') : wpAny (model prog w) A (delItem (.ref d) (.int k t)) Q E s := by
  obtain ⟨kvs, hd, h3, h4⟩ := I.dict hi
  have nd := I.dictNd hi
  obtain ⟨v, h5, h6⟩ := find_of (P := P) (k := k) h3 h4 (by simp) nd
  have hl : kvs.length = ps.length + 1 := by have := congrArg List.length h3; simpa using this
  refine wpAny_delItem_slot hd.typeIs (by decide) F.slot_dict_delitem (call_meetsIn F.slot_dict_delitem hd.typeIs F.entry_dict_delitem (F.args_dict_delitem_2 _ _) (meets_dict_delitem_pairs (intKind prog w) d (k := k) (intKind_is prog w k t)) ⟨kvs, hd, by rw [hl, sizeLine_eq]; omega, by rw [h5]; rfl, fun h' hd' hs => ?_⟩)
  refine h _ (I.upd hi hs ?_ rfl rfl rfl)
  obtain ⟨us, u, rfl⟩ : ∃ us u, kvs = us ++ [u] := ⟨kvs.dropLast, kvs.getLast (by rintro rfl; simp at hl), (List.dropLast_concat_getLast _).symm⟩
  have hul : us.length = ps.length := by simpa using hl
  rw [List.map_append, List.map_append] at h3 h4
  obtain ⟨e1, e2⟩ := List.append_inj h3 (by simpa using hul)
  have e3 : u.1 = k := by simpa using e2
  rw [List.map_append, ← e1] at nd
  have hnin : k ∉ us.map (·.1) := fun q => (List.nodup_append.mp nd).2.2 k q k (by simp) rfl
  have e4 : without (us ++ [u]) k = us := by
    have := without_of_not_mem us k hnin
    unfold without at this ⊢
    rw [List.filter_append, this]
    simp [e3]
  rw [e4] at hd'
  refine isD_of hd' e1 ⟨by simp [hul], fun a P' v' ha hv' => ?_⟩
  exact h4.2 a P' v' (by rw [List.getElem?_append_left (List.getElem?_eq_some_iff.mp ha).1]; exact ha) (by rw [List.getElem?_append_left (List.getElem?_eq_some_iff.mp hv').1]; exact hv')
end
end Mine
end
-- MN
section
open PySem PySem.W PyProof.Rows
set_option maxRecDepth 100000
set_option maxHeartbeats 4000000
namespace Mine
theorem li_getattribute : typeLookup (.type "list_iterator") "__getattribute__" = pure (some (.builtin "object.__getattribute__")) := by rw [typeLookup_type, builtinLookup_eq_fast]; kernel_rfl
theorem li_getattr : typeLookup (.type "list_iterator") "__getattr__" = pure none := by rw [typeLookup_type, builtinLookup_eq_fast]; kernel_rfl
theorem li_next : typeLookup (.type "list_iterator") "__next__" = pure (some (.builtin "list_iterator.__next__")) := by rw [typeLookup_type, builtinLookup_eq_fast]; kernel_rfl
theorem li_tynext : typeOf (.builtin "list_iterator.__next__") = pure (.type "wrapper_descriptor") := by show builtinType _ = _; rw [builtinType_eq_fast]; kernel_rfl
theorem wd_get : typeLookup (.type "wrapper_descriptor") "__get__" = pure (some (.builtin "wrapper_descriptor.__get__")) := by rw [typeLookup_type, builtinLookup_eq_fast]; kernel_rfl
theorem wd_set : typeLookup (.type "wrapper_descriptor") "__set__" = pure none := by rw [typeLookup_type, builtinLookup_eq_fast]; kernel_rfl
theorem wd_del : typeLookup (.type "wrapper_descriptor") "__delete__" = pure none := by rw [typeLookup_type, builtinLookup_eq_fast]; kernel_rfl
theorem wd_entry : entryFor table "wrapper_descriptor.__get__" = some Builtin.«wrapper_descriptor.__get__» := entryFor_of_tree (by kernel_rfl)
theorem li_slot_ga : Slot "list_iterator" "__getattribute__" "object.__getattribute__" :=
  .of (owner := "object") (n := "__getattribute__") li_getattribute (by decide +kernel) (by decide +kernel) (by decide +kernel)
    (by first | exact .inl (by decide +kernel) | exact .inr (by decide +kernel)) (by rw [isSubtype_type]; kernel_rfl)
theorem og_entry : entryFor table "object.__getattribute__" = some Builtin.«object.__getattribute__» := entryFor_of_tree (by kernel_rfl)
theorem og_args (a b : Value) : argsOk "object.__getattribute__" ⟨[a, b], []⟩ := by unfold argsOk; kernel_rfl
theorem wd_slot : Slot "wrapper_descriptor" "__get__" "wrapper_descriptor.__get__" :=
  .of (owner := "wrapper_descriptor") (n := "__get__") wd_get (by decide +kernel) (by decide +kernel) (by decide +kernel)
    (by first | exact .inl (by decide +kernel) | exact .inr (by decide +kernel)) (by rw [isSubtype_type]; kernel_rfl)
theorem wd_args (a b c : Value) : argsOk "wrapper_descriptor.__get__" ⟨[a, b, c], []⟩ := by unfold argsOk; kernel_rfl
section
variable {prog : Program} {w : World} {A : Around} {E : Value → Shared → Prop} {s : Shared}
theorem li_sub : isSubtype (.type "list_iterator") (.type "list_iterator") = pure true := by rw [isSubtype_type]; kernel_rfl
noncomputable abbrev wrapO (it : Addr) : Obj := { cls := .type "method-wrapper", data := .fields #[.builtin "list_iterator.__next__", .ref it] }
theorem wdGet {it : Addr} {o : Obj} {R : Result → Shared → Prop} (hx : s.heap.get? it = some o) (hc : o.cls = .type "list_iterator") (h : R (.ok (.ret (.ref s.heap.objs.size))) { s with heap := s.heap.push (wrapO it) }) :
    codeAny (model prog w) A (.call (.builtin "wrapper_descriptor.__get__") ⟨[.builtin "list_iterator.__next__", .ref it, .type "list_iterator"], []⟩) R s := by
  obtain ⟨hp, g, d, tk, os⟩ := s
  have hT : ∀ tk', (⟨hp, g, d, tk', os⟩ : Shared).TypeIs (.ref it) "list_iterator" := fun _ => ⟨_, hx, hc⟩
  have hT2 : ∀ tk', (⟨hp, g, d, tk', os⟩ : Shared).TypeIs (.builtin "list_iterator.__next__") "wrapper_descriptor" := fun _ => li_tynext
  refine codeAny_call_builtin wd_slot.plain wd_entry (wd_slot.check _ _ _ _ _ _ _ _ (hT2 _) (wd_args _ _ _) ?_)
  unfold Builtin.«wrapper_descriptor.__get__»
  refine wpAny_bind (wpAny_of_eq (a := (.builtin "list_iterator.__next__", some (.ref it), some (.type "list_iterator"))) (by first | rfl | kernel_rfl) ?_)
  k_delta "bindBuiltin"
  try dsimp only
  k_delta "checkInstance"
  k_delta "nameAndClass"
  try dsimp only
  have f11 := li_sub
  repeat (any_goals (first | assumption | exact hT _ | wp_step))
  rw [hc, show (".".intercalate ("list_iterator.__next__".cutAt '.').dropLast) = "list_iterator" from by decide +kernel]
  repeat (any_goals (first | assumption | exact hT _ | wp_step))
theorem next_attr {it l : Addr} {Q : Value → Shared → Prop} (hx : s.heap.get? it = some { cls := .type "list_iterator", data := .fields #[.ref l, .int 0 0] })
    (h : ∀ tk, Q (.ref s.heap.objs.size) { s with heap := s.heap.push { cls := .type "method-wrapper", data := .fields #[.builtin "list_iterator.__next__", .ref it] }, toks := tk }) :
    wpAny (model prog w) A (getAttr (.ref it) "__next__" true) Q E s := by
  obtain ⟨hp, g, d, tk, os⟩ := s
  have hT : ∀ tk', (⟨hp, g, d, tk', os⟩ : Shared).TypeIs (.ref it) "list_iterator" := fun _ => ⟨_, hx, rfl⟩
  have f3 := li_getattribute
  have f5 := li_getattr
  unfold getAttr getAttrBy
  have f4 := li_slot_ga.bind (.ref it)
  have f6 := li_next
  have f7 := li_tynext
  have f8 := wd_get
  have f9 := wd_set
  have f10 := wd_del
  repeat (any_goals (first | assumption | exact hT _ | wp_step))
  refine codeAny_call_builtin li_slot_ga.plain og_entry (li_slot_ga.check _ _ _ _ _ _ _ _ (hT _) (og_args _ _) ?_)
  unfold Builtin.«object.__getattribute__»
  repeat (any_goals (first | assumption | exact hT _ | wp_step))
  refine wdGet hx rfl ?_
  repeat (any_goals (first | assumption | exact hT _ | wp_step))
  exact h _
end
end Mine
end
-- MN2
section
open PySem PySem.W PyProof.Rows
set_option maxRecDepth 100000
set_option maxHeartbeats 4000000
namespace Mine
theorem iter_entry : entryFor table "iter" = some Builtin.«iter» := by first | exact entryFor_of_tree (by kernel_rfl) | exact entryFor_of_fast (by kernel_rfl)
theorem iter_args (a : Value) : argsOk "iter" ⟨[a], []⟩ := by unfold argsOk; kernel_rfl
theorem li_bound (v : Value) : checkBoundCall "list_iterator.__next__" ⟨[v], []⟩ = pure () := by kernel_rfl
section
variable {prog : Program} {w : World} {A : Around} {E : Value → Shared → Prop} {s : Shared}
theorem iterC {l : Addr} {items : Array Value} {Q : Value → Shared → Prop} (hl : s.heap.IsList l items)
    (hQ : Q (.ref s.heap.objs.size) { s with heap := s.heap.push { cls := .type "list_iterator", data := .fields #[.ref l, .int 0 0] } }) :
    wpAny (model prog w) A (call (.builtin "iter") [.ref l]) Q E s := by
  refine PySem.Calls.call_function_entry (by decide +kernel) (by decide +kernel) iter_entry (iter_args _) ?_
  unfold Builtin.«iter»
  refine wpAny_bind (m := someArgs "iter" 1 2 _) (wpAny_of_eq (a := [Value.ref l]) (by first | rfl | kernel_rfl!) ?_)
  show wpAny _ _ (pyIter (.ref l) >>= _) _ _ _
  exact wpAny_bind (wpAny_pyIter_list hl (wpAny_pure ⟨_, rfl, hQ⟩))

theorem wrapOpen {q it : Addr} {Q : Value → Shared → Prop} (hq : s.heap.get? q = some (wrapO it))
    (h : wpAny (model prog w) A.in1 (Builtin.«list_iterator.__next__» ⟨[.ref it], []⟩) (fun fin s' => match fin with | .done (.ret v) => Q v s' | _ => False) E s) :
    wpAny (model prog w) A (call (.ref q) []) Q E s := by
  refine wpAny_call (codeAny_of_tree ?_)
  show wpAny _ _ (callAny (.ref q) _) _ _ _
  refine nd_load hq ?_
  show wpAny _ _ (checkBoundCall "list_iterator.__next__" ⟨[.ref it], []⟩ >>= fun _ => again (.builtin "list_iterator.__next__" ⟨[.ref it], []⟩)) _ _ _
  refine wpAny_bind (wpAny_of_eq (li_bound _) ?_)
  refine wpAny_pure ⟨Code.quiet_builtin _ (by decide +kernel), codeAny_builtin entry_listiter_next ?_⟩
  rw [Around.under_plainId (by decide +kernel) _]
  refine wpAny_mono h (fun fin s' z => ?_) fun _ _ x => x
  rcases fin with (_ | _ | _ | _) | _ <;> first | exact z | exact z.elim
theorem wrapItem {q it l : Addr} {i : Nat} {items : Array Value} {x : Value} {Q : Value → Shared → Prop} (hq : s.heap.get? q = some (wrapO it)) (hit : s.heap.IsListIter it l i)
    (hl : s.heap.IsList l items) (hx : items[i]? = some x)
    (hQ : ∀ h', h'.IsListIter it l (i + 1) → Heap.SameBut it s.heap h' → Q x { s with heap := h' }) :
    wpAny (model prog w) A (call (.ref q) []) Q E s := by
  refine wrapOpen hq ?_
  obtain ⟨o, ho, hc, hd⟩ := id hit
  obtain ⟨ol, hol, _, nl, hdl⟩ := hl
  show wpAny _ _ (field (.ref it) 0 >>= _) _ _ s
  refine wpAny_bind (wpAny_field ho hd (x := .ref l) rfl ?_)
  show wpAny _ _ (if (Value.ref l == Value.none) = true then _ else _) _ _ s
  rw [if_neg (show ¬ ((Value.ref l == Value.none) = true) from Bool.false_ne_true)]
  show wpAny _ _ (field (.ref it) 1 >>= _) _ _ s
  refine wpAny_bind (wpAny_field ho hd (x := .int i 0) rfl ?_)
  show wpAny _ _ (seqItems? (.ref l) >>= _) _ _ s
  refine wpAny_bind (wpAny_seqItems hol hdl ?_)
  simp only [Int.toNat_natCast, hx]
  refine wpAny_bind (wpAny_setField ho hd (by simp) (wpAny_pure (hQ _ ?_ (Heap.SameBut.update ..))))
  exact ⟨_, Heap.get?_update_self _ ho (Obj.isFreed_of_fields (Obj.data_mapFields hd _)), (Obj.cls_mapFields ..).trans hc, by
    rw [Obj.data_mapFields hd]; simp [rawInt]⟩
theorem wrapEnd {q it l : Addr} {i : Nat} {items : Array Value} {Q : Value → Shared → Prop} (hh : A.handled = none) (hq : s.heap.get? q = some (wrapO it)) (hit : s.heap.IsListIter it l i)
    (hl : s.heap.IsList l items) (hx : items[i]? = none)
    (hE : ∀ h' e t, h'.get? e = some { cls := .type "StopIteration", data := .fields #[.ref t, .none, .none, .none, .bool false, .none] } → s.heap.objs.size ≤ e → Heap.ExtBut it s.heap h' → E (.ref e) { s with heap := h' }) :
    wpAny (model prog w) A (call (.ref q) []) Q E s := by
  refine wrapOpen hq ?_
  obtain ⟨o, ho, hc, hd⟩ := id hit
  obtain ⟨ol, hol, _, nl, hdl⟩ := hl
  show wpAny _ _ (field (.ref it) 0 >>= _) _ _ s
  refine wpAny_bind (wpAny_field ho hd (x := .ref l) rfl ?_)
  show wpAny _ _ (if (Value.ref l == Value.none) = true then _ else _) _ _ s
  rw [if_neg (show ¬ ((Value.ref l == Value.none) = true) from Bool.false_ne_true)]
  show wpAny _ _ (field (.ref it) 1 >>= _) _ _ s
  refine wpAny_bind (wpAny_field ho hd (x := .int i 0) rfl ?_)
  show wpAny _ _ (seqItems? (.ref l) >>= _) _ _ s
  refine wpAny_bind (wpAny_seqItems hol hdl ?_)
  simp only [Int.toNat_natCast, hx]
  refine wpAny_bind (wpAny_rule (wpAny_bind (wpAny_setField ho hd (by simp) ?_)))
  show wpAny _ _ (newExc (.type "StopIteration") [] >>= _) _ _ _
  refine wpAny_bind ?_
  simp only [newExc, newTuple]
  refine wpAny_bind (wpAny_newObj_type ?_ (by size_fits))
  refine wpAny_bind (m := firstArgMember _ _) (wpAny_of_eq (a := Value.none) (by first | rfl | (simp only [firstArgMember]; rfl)) ?_)
  refine wpAny_newObj_type ?_ (by size_fits)
  simp only [raiseNew]
  refine wpAny_bind (wpAny_handled ?_)
  rw [show A.in1.handled = none from hh]
  refine wpAny_bind (wpAny_pure (wpAny_throw ?_))
  refine hE _ _ _ (Heap.get?_push_size _ rfl) ?_ (((Heap.SameBut.update ..).extBut.push _).push _)
  rw [Heap.size_push]
  simp
end
end Mine
end
-- MN3
section
open PySem PySem.W PyProof.Rows
set_option maxRecDepth 100000
set_option maxHeartbeats 4000000
namespace Mine

noncomputable def isFrm (dt : Data) : OP := fun o => o.data = dt
noncomputable abbrev stopO (t : Addr) : Obj := { cls := .type "StopIteration", data := .fields #[.ref t, .none, .none, .none, .bool false, .none] }
noncomputable def isE (tb : Addr) : OP := fun o => o.cls = .type "StopIteration" ∧ ∃ vs, o.data = .fields vs ∧ vs[1]? = some (.ref tb)
noncomputable def isTB : OP := fun o => ∃ vs, o.data = .fields vs ∧ 3 < vs.size
/-- the frames of the callers, in the ledger -/
noncomputable def FrIn (objs : List (Addr × OP)) : List Env → Prop
  | [] => True
  | env :: r => env.scope.kind ≠ .module ∧ (∃ a es ep, env.frame = some a ∧ (a, isFrm (.dict es ep)) ∈ objs) ∧ FrIn objs r
theorem FrIn.mono {objs objs' : List (Addr × OP)} (h : ∀ p ∈ objs, p ∈ objs') : ∀ {l : List Env}, FrIn objs l → FrIn objs' l
  | [], _ => trivial
  | env :: r, ⟨h1, ⟨a, es, ep, h2, h3⟩, h4⟩ => ⟨h1, ⟨a, es, ep, h2, h _ h3⟩, h4.mono h⟩
section
variable {prog : Program} {w : World} {A : Around} {E : Value → Shared → Prop} {s : Shared}
variable {g : Heap} {G : Array GenState} {O : OsState} {L : Addr} {m : List (Str × VP)} {objs : List (Addr × OP)} {env : Env} {names : List (Str × NameKind)} {cs : List (Str × Addr)}

theorem FrIn.fun (I : St g G O L m objs s) : ∀ {l : List Env}, FrIn objs l → s.heap.FunFrames g l
  | [], _ => trivial
  | env :: r, ⟨h1, ⟨a, es, ep, h2, h3⟩, h4⟩ => by
    obtain ⟨⟨o, e1, e2⟩, _, e3⟩ := I.led _ h3
    exact ⟨h1, ⟨a, o, h2, e3, e1, fun vs q => by rw [show o.data = _ from e2] at q; cases q⟩, h4.fun I⟩
theorem FrIn.addr {l : List Env} (h : FrIn objs l) {b : Addr} (hb : b ∈ l.filterMap (·.frame)) : ∃ es ep, (b, isFrm (.dict es ep)) ∈ objs := by
  induction l with
  | nil => simp at hb
  | cons env r ih =>
    obtain ⟨h1, ⟨a, es, ep, h2, h3⟩, h4⟩ := h
    rw [List.filterMap_cons, h2] at hb
    rcases List.mem_cons.mp hb with e | hb
    · subst e; exact ⟨es, ep, h3⟩
    · exact ih h4 hb

/-- frames made ready: slots alone turn -/
theorem St.slots (I : St g G O L m objs s) {l : List Env} {s' : Shared} (hl : FrIn objs l) (hs : Heap.SlotsOnly (L :: l.filterMap (·.frame)) s.heap s'.heap) (hg : s'.gens = s.gens) (ho : s'.os = s.os) : St g G O L m objs s' := by
  obtain ⟨f, ⟨oL, es, ep, hL, hd, r⟩, hm⟩ := I.ns
  obtain ⟨sl, hL'⟩ := hs.2.2 _ _ hL
  refine ⟨⟨f, ⟨_, es, ep, hL', hd, r⟩, hm⟩, fun b o e => ?_, I.newL, fun p hp => ?_, I.nd, hg.trans I.gens, ho.trans I.os⟩
  · refine (hs.2.1 b fun q => ?_).trans (I.keep b o e)
    rcases List.mem_cons.mp q with rfl | q
    · rw [I.newL] at e; cases e
    · obtain ⟨es', ep', h'⟩ := hl.addr q
      rw [(I.led _ h').2.2] at e; cases e
  · obtain ⟨⟨o, h1, h2⟩, h3, h4⟩ := I.led p hp
    refine ⟨?_, h3, h4⟩
    by_cases q : p.1 ∈ l.filterMap (·.frame)
    · obtain ⟨es', ep', h'⟩ := hl.addr q
      obtain ⟨sl', e'⟩ := hs.2.2 _ _ h1
      refine ⟨_, e', ?_⟩
      obtain ⟨i, hi⟩ := List.mem_iff_getElem?.mp hp
      obtain ⟨j, hj⟩ := List.mem_iff_getElem?.mp h'
      have hij : i = j := by
        by_cases e : i = j
        · exact e
        · exact absurd (show p.1 = p.1 from rfl) (nodup_ne (p := p) (q := (p.1, isFrm (.dict es' ep'))) I.nd hi hj e)
      subst hij
      rw [hi] at hj
      have := Option.some.inj hj
      rw [this] at h2 ⊢
      exact h2
    · have hnin : p.1 ∉ L :: l.filterMap (·.frame) := fun x => by
        rcases List.mem_cons.mp x with x | x
        · exact h3 x
        · exact q x
      exact ⟨o, (hs.2.1 _ hnin).trans h1, h2⟩

theorem noteF {e t : Addr} {outer : List Env} {Q : Unit → Shared → Prop} (I : St g G O L m (objs ++ [(e, isO (stopO t))]) s) (hfr : A.frames = some (env :: outer)) (hf : env.frame = some L) (hk : env.scope.kind ≠ .module) (ho : FrIn objs outer)
    (h : ∀ tb s', St g G O L m (objs ++ [(e, isE tb), (tb, isTB)]) s' → Q () s') : wpAny (model prog w) A (noteFrame (.ref e) env) Q E s := by
  obtain ⟨oe, he, he2⟩ := (I.led (e, _) last_mem).1
  have he2' : oe = stopO t := he2
  subst he2'
  have ho' : FrIn (objs ++ [(e, isO (stopO t))]) outer := ho.mono fun p hp => List.mem_append_left _ hp
  have hFF : s.heap.FunFrames g (env :: outer) := by
    obtain ⟨f, ⟨oL, es, ep, hL, hd, r⟩, hm⟩ := I.ns
    exact ⟨hk, ⟨L, oL, hf, I.newL, hL, fun vs q => by rw [hd] at q; cases q⟩, ho'.fun I⟩
  unfold noteFrame
  simp only [hf]
  refine wpAny_bind (wpAny_field he rfl (x := .none) rfl ?_)
  rw [if_neg (by decide)]
  refine wpAny_bind (wpAny_frameOf_fun hfr hFF hf fun h₁ hs₁ => ?_)
  have e1 : (env :: outer).filterMap (·.frame) = L :: outer.filterMap (·.frame) := by rw [List.filterMap_cons, hf]
  rw [e1] at hs₁
  have I1 : St g G O L m (objs ++ [(e, isO (stopO t))]) { s with heap := h₁ } := I.slots ho' hs₁ rfl rfl
  refine wpAny_bind (wpAny_entryPlaceOf fun pl hpl => ?_)
  unfold EntryCells.newEntry newFields
  refine wpAny_bind (wpAny_newObj_type ?_ (hpl.sizeOk5 _ _ _ _ _))
  have I2 := I1.push (s' := { s with heap := h₁.push { cls := .type "traceback", data := .fields ([Value.none, .ref L, .none, rawInt L, .none] ++ (if pl.isEmpty then List.replicate 6 Value.none else pl)).toArray } }) (o := { cls := .type "traceback", data := .fields ([Value.none, .ref L, .none, rawInt L, .none] ++ (if pl.isEmpty then List.replicate 6 Value.none else pl)).toArray }) (P := isTB) rfl ⟨_, rfl, by simp⟩ rfl rfl rfl
  have hi : (objs ++ [(e, isO (stopO t))] ++ [(h₁.objs.size, isTB)])[objs.length]? = some (e, isO (stopO t)) := by simp
  obtain ⟨oe, he, he2⟩ := I2.obj hi
  have he2' : oe = stopO t := he2
  subst he2'
  refine wpAny_setField he rfl (by show 1 < 6; omega) (h h₁.objs.size _ ?_)
  have I3 := I2.upd (P' := isE h₁.objs.size) hi (Heap.SameBut.update ..) ⟨_, Heap.get?_update_self _ he rfl, ⟨rfl, _, rfl, rfl⟩⟩ (s' := { s with heap := (h₁.push { cls := .type "traceback", data := .fields ([Value.none, .ref L, .none, rawInt L, .none] ++ (if pl.isEmpty then List.replicate 6 Value.none else pl)).toArray }).update e (Obj.mapFields (·.setIfInBounds 1 (.ref h₁.objs.size))) }) rfl rfl rfl
  refine I3.cast ?_
  simp
theorem flightF {e tb : Addr} {Q : Unit → Shared → Prop} (I : St g G O L m (objs ++ [(e, isE tb), (tb, isTB)]) s)
    (h : ∀ s', St g G O L m (objs ++ [(e, isE tb), (tb, isTB)]) s' → Q () s') : wpAny (model prog w) A (setFlight (.ref e) none) Q E s := by
  obtain ⟨oe, he, hc, vs, hd, h1⟩ := (I.led (e, _) (List.mem_append_right _ (.head _))).1
  have hi : (objs ++ [(e, isE tb), (tb, isTB)])[objs.length + 1]? = some (tb, isTB) := by
    rw [List.getElem?_append_right (Nat.le_succ _), show objs.length.succ - objs.length = 1 by omega]; rfl
  obtain ⟨ot, ht, ts, hdt, hsz⟩ := I.obj hi
  refine wpAny_setFlight_none he hd h1 ht hdt hsz (h _ ?_)
  have I3 := I.upd (P' := isTB) hi (Heap.SameBut.update ..) ⟨_, Heap.get?_update_self _ ht (Obj.isFreed_of_fields (Obj.data_mapFields hdt _)), ⟨_, Obj.data_mapFields hdt _, by simpa using hsz⟩⟩ (s' := { s with heap := s.heap.update tb (Obj.mapFields (·.setIfInBounds 3 .none)) }) rfl rfl rfl
  rwa [set_self hi] at I3
end
end Mine
end
-- MN4
section
open PySem PySem.W PyProof.Rows
set_option maxRecDepth 100000
set_option maxHeartbeats 4000000
namespace Mine
section
variable {prog : Program} {w : World} {A : Around} {E : Value → Shared → Prop} {s s' : Shared}
variable {g : Heap} {G : Array GenState} {O : OsState} {L : Addr} {m : List (Str × VP)} {objs : List (Addr × OP)} {env : Env} {names : List (Str × NameKind)} {cs : List (Str × Addr)}

/-- the base for what is called, without the caller's frame -/
noncomputable abbrev underF (s : Shared) (L : Addr) (objs : List (Addr × OP)) : Heap := hideAll s.heap (L :: objs.map (·.1))
theorem St.staysF (I : St g G O L m objs s) : ∀ b o, g.get? b = some o → (underF s L objs).get? b = some o := fun b o e =>
  hideAll_get _ (I.keep b o e) fun q => by
    rcases List.mem_cons.mp q with rfl | q
    · rw [I.newL] at e; cases e
    · obtain ⟨p, hp, rfl⟩ := List.mem_map.mp q
      rw [(I.led p hp).2.2] at e; cases e
theorem St.frame (I : St g G O L m objs s) : ∃ es ep, (∃ o, s.heap.get? L = some o ∧ isFrm (.dict es ep) o) ∧ ∀ h' : Heap, (∃ o, h'.get? L = some o ∧ isFrm (.dict es ep) o) → ∃ f, h'.Ns L f ∧ ∀ x P, m.lookup x = some P → ∃ v, f x = some v ∧ P v := by
  obtain ⟨f, ⟨oL, es, ep, hL, hd, r⟩, hm⟩ := I.ns
  exact ⟨es, ep, ⟨oL, hL, hd⟩, fun h' ⟨o, h1, h2⟩ => ⟨f, ⟨o, es, ep, h1, h2, r⟩, hm⟩⟩
theorem St.enterF (I : St g G O L m objs s) {L' : Addr} {f' : Str → Option Value} {m' : List (Str × VP)} {dt : Data} (hdt : ∃ o, s.heap.get? L = some o ∧ isFrm dt o) (hn : s'.heap.Ns L' f') (hm : ∀ x P, m'.lookup x = some P → ∃ v, f' x = some v ∧ P v)
    (hk : ∀ b o, s.heap.get? b = some o → s'.heap.get? b = some o) (hL : s.heap.objs.size ≤ L') (hg : s'.gens = s.gens) (ho : s'.os = s.os) :
    St (underF s L objs) G O L' m' (objs ++ [(L, isFrm dt)]) s' := by
  have nL : L ∉ objs.map (·.1) := fun q => by
    obtain ⟨p, hp, e⟩ := List.mem_map.mp q
    exact (I.led p hp).2.1 e
  refine ⟨⟨f', hn, hm⟩, fun b o e => hk b o (of_hideAll _ e), ?_, fun p hp => ?_, ?_, hg.trans I.gens, ho.trans I.os⟩
  · cases q : (underF s L objs).get? L' with
    | none => rfl
    | some o => exact absurd (Heap.lt_size (of_hideAll _ q)) (Nat.not_lt.mpr hL)
  · rcases List.mem_append.mp hp with hp | hp
    · obtain ⟨⟨o, h1, h2⟩, h3, h4⟩ := I.led p hp
      exact ⟨⟨o, hk _ _ h1, h2⟩, Nat.ne_of_lt (Nat.lt_of_lt_of_le (Heap.lt_size h1) hL), hideAll_none _ (.tail _ (List.mem_map_of_mem hp))⟩
    · obtain rfl := List.mem_singleton.mp hp
      obtain ⟨o, h1, h2⟩ := hdt
      exact ⟨⟨o, hk _ _ h1, h2⟩, Nat.ne_of_lt (Nat.lt_of_lt_of_le (Heap.lt_size h1) hL), hideAll_none _ (.head _)⟩
  · rw [List.map_append]
    exact List.nodup_append.mpr ⟨I.nd, by simp, fun a ha b hb e => by subst e; simp at hb; subst hb; exact nL ha⟩
theorem St.leaveF (I : St g G O L m objs s) {L' : Addr} {m' : List (Str × VP)} {objs' : List (Addr × OP)} {dt : Data}
    (back : ∀ h' : Heap, (∃ o, h'.get? L = some o ∧ isFrm dt o) → ∃ f, h'.Ns L f ∧ ∀ x P, m.lookup x = some P → ∃ v, f x = some v ∧ P v)
    (I' : St (underF s L objs) G O L' m' (objs' ++ [(L, isFrm dt)]) s') : St g G O L m objs' s' := by
  have nd := I'.nd
  rw [List.map_append] at nd
  refine ⟨back _ (I'.led (L, _) last_mem).1, fun b o e => I'.keep b o (I.staysF b o e), I.newL, fun p hp => ?_, (List.nodup_append.mp nd).1, I'.gens, I'.os⟩
  obtain ⟨h1, h2, h3⟩ := I'.led p (List.mem_append_left _ hp)
  refine ⟨h1, fun q => (List.nodup_append.mp nd).2.2 _ (List.mem_map_of_mem hp) L (by simp) q, ?_⟩
  cases q : g.get? p.1 with
  | none => rfl
  | some o => rw [I.staysF _ _ q] at h3; cases h3

/-- call of a def, the caller's frame in the ledger -/
theorem call_fnF {f : Addr} {fd : FuncData} {o : Obj} {body : List Stmt} {args : List Value} {bs : List (Str × Value)} {Q : Value → Shared → Prop}
    (I : St g G O L m objs s) (hW : W w g) (hroom : A.depth < recursionLimit)
    (ho : (KF w).lookup f = some o) (hdata : o.data = .func fd) (hbody : fd.body = .stmts body) (hcd : codeIn (KF w) fd.code fd.qualname = true)
    (hbind : BindsTo s fd ⟨args, []⟩ bs) (hcell : (fd.scope.names.all fun x => x.2 != .cell) = true) (hloc : (bs.all fun x => fd.scope.names.lookup x.1 == some .local) = true)
    (h : ∀ g' L' s' env es ep, EnvIs env L' fd.scope.names fd.closure → env.frame = some L' → W w g' → St g' G O L' (bs.reverse.map fun b => (b.1, isV b.2)) (objs ++ [(L, isFrm (.dict es ep))]) s' → ∀ E',
      wpAny (model prog w) (A.deeper env) (execs body env) (fun fl s₂ => ∃ m₂ objs₂, St g' G O L' m₂ (objs₂ ++ [(L, isFrm (.dict es ep))]) s₂ ∧ (St g G O L m objs₂ s₂ → Q (flowVal fl) s₂)) E' s')
    (hco : fd.scope.isCoroutine = false := by rfl) (hgen : fd.scope.isGenerator = false := by rfl) (hk : fd.scope.kind = .function := by rfl)
    (hgl : fd.globals = mainGlobals := by rfl) (hbl : fd.builtins = builtinsNs := by rfl) :
    wpAny (model prog w) A (call (.ref f) args) Q E s := by
  have hWs : W w s.heap := hW.keeps I.keep
  obtain ⟨es, ep, hfr, back⟩ := I.frame
  refine wpAny_call (codeAny_call_def hroom (hWs.k _ _ ho) hdata hWs.lim (codeRec_of hWs.k hcd) hbody hbind (fun x hx => by simpa using List.all_eq_true.mp hcell x hx) (fun x hx => by simpa using List.all_eq_true.mp hloc x hx) (fun h₀ hns hk₀ => ?_) hco hgen hk)
  have I' : St (underF s L objs) G O s.heap.objs.size (bs.reverse.map fun b => (b.1, isV b.2)) (objs ++ [(L, isFrm (.dict es ep))]) { s with heap := h₀, toks := s.toks + bs.length } := by
    refine I.enterF hfr hns (fun x P hx => ?_) hk₀ (Nat.le_refl _) rfl rfl
    have : ∀ (l : List (Str × Value)) x P, (l.map fun b => (b.1, isV b.2)).lookup x = some P → ∃ v, l.lookup x = some v ∧ P v := by
      intro l
      induction l with
      | nil => intro x P h; cases h
      | cons b r ih =>
        intro x P h
        rw [List.map_cons] at h
        rcases lookup_up h with ⟨rfl, rfl⟩ | ⟨ne, h⟩
        · exact ⟨b.2, by rw [List.lookup_cons, beq_self_eq_true], rfl⟩
        · obtain ⟨v, h1, h2⟩ := ih x P h
          exact ⟨v, by rw [List.lookup_cons, show (x == b.1) = false from by simpa using ne]; exact h1, h2⟩
    exact this _ x P hx
  refine wpAny_mono (h _ _ _ _ es ep ⟨hk, rfl, rfl, hgl, hbl, rfl⟩ rfl (hW.keeps I.staysF) I' _) (fun fl s₂ ⟨m₂, objs₂, h1, h2⟩ => ?_) fun _ _ x => x
  have := h2 (I.leaveF back h1)
  cases fl <;> exact this
end
end Mine
end
-- MN5
section
open PySem PySem.W PyProof.Rows
set_option maxRecDepth 100000
set_option maxHeartbeats 4000000
namespace Mine
/-- a set of ints -/
noncomputable def isSt (prog : Program) (w : World) (ks : List Int) : OP := fun o => ∃ (S : Int → Bool) (n : Nat), (∃ es ep t, o.ExactSet ∧ o.data = .set es ep t ∧ ElemsOf (intKind prog w) es.toList ∧ (∀ k, S k = true ↔ ∃ e ∈ es.toList, (intKind prog w).is k e.2 = true) ∧ es.size < scanBound ∧ t.fits es.size = true ∧ es.size = n) ∧
  (∀ k : Int, S k = true ↔ k ∈ ks) ∧ n ≤ ks.length
section
variable {prog : Program} {w : World} {A : Around} {E : Value → Shared → Prop} {s s' : Shared}
variable {g : Heap} {G : Array GenState} {O : OsState} {L : Addr} {m : List (Str × VP)} {objs : List (Addr × OP)} {env : Env} {names : List (Str × NameKind)} {cs : List (Str × Addr)}
theorem St.sett (I : St g G O L m objs s) {i : Nat} {d : Addr} {ks : List Int} (hi : objs[i]? = some (d, isSt prog w ks)) : ∃ S n, s.heap.SetOf (intKind prog w) d S n ∧ (∀ k : Int, S k = true ↔ k ∈ ks) ∧ n ≤ ks.length := by
  obtain ⟨o, h1, S, n, ⟨es, ep, t, r⟩, h2⟩ := I.obj hi
  exact ⟨S, n, ⟨o, es, ep, t, h1, r⟩, h2⟩
theorem newS {Q : Value → Shared → Prop} (I : St g G O L m objs s) (h : ∀ a s', St g G O L m (objs ++ [(a, isSt prog w [])]) s' → Q (.ref a) s') : wpAny (model prog w) A (call (.type "set") []) Q E s := by
  refine call_set_0 fun led => h _ _ (I.push (P := isSt prog w []) rfl ?_ rfl rfl rfl)
  refine ⟨fun _ => false, 0, ⟨#[], 0, .fresh 0 0 led, ⟨rfl, rfl, rfl⟩, rfl, fun e he => by simp at he, fun k => by simp, by decide, ?_, rfl⟩, fun k => by simp, Nat.le_refl _⟩
  cases led <;> decide
theorem tInS {i : Nat} {d : Addr} {ks : List Int} {k : Int} {t : Tok} {Q : Bool → Shared → Prop} (I : St g G O L m objs s) (hi : objs[i]? = some (d, isSt prog w ks))
    (h1 : k ∈ ks → ∀ s', St g G O L m objs s' → Q true s') (h2 : k ∉ ks → ∀ s', St g G O L m objs s' → Q false s') :
    wpAny (model prog w) A (compareOp .In (.int k t) (.ref d)) (fun c s₃ => wpAny (model prog w) A (truthy c) Q E s₃) E s := by
  obtain ⟨S, n, hS, h3, h4⟩ := I.sett hi
  refine wpAny_inSet_of (intKind_is prog w k t) rfl hS (wpAny_truthy_bool ?_)
  by_cases hk : k ∈ ks
  · rw [(h3 k).mpr hk]; exact h1 hk _ (I.tk _)
  · rw [show S k = false from by
      cases q : S k with
      | false => rfl
      | true => exact absurd ((h3 k).mp q) hk]
    exact h2 hk _ (I.tk _)
theorem addSM {pos : Pos} {e : Expr} {i : Nat} {d : Addr} {ks : List Int} {Q : Value → Shared → Prop} (I : St g G O L m objs s) (hi : objs[i]? = some (d, isSt prog w ks)) (hz : ks.length ≤ 100)
    (h : wpAny (model prog w) A (eval e env) (fun v s₂ => ∃ k t, v = .int k t ∧ St g G O L m objs s₂ ∧ ∀ s', St g G O L m (objs.set i (d, isSt prog w (ks ++ [k]))) s' → Q .none s') E s) :
    MethodOn prog w A "add" pos (.ref d) [(false, eval e env)] Q E s := by
  obtain ⟨S, n, hS, h3, h4⟩ := I.sett hi
  refine ⟨"set", "set.add", F.plainAttrs_set, F.slot_set_add, F.type_set_add, hS.typeIs, hS.noDict, ?_⟩
  refine Calls.callWith_builtin rfl (Calls.evalArgs_plain (Calls.spliced_cons (wpAny_mono h (fun v s₂ ⟨k, t, e, I2, hq⟩ => Calls.spliced_nil ?_) fun _ _ x => x)))
  subst e
  obtain ⟨S, n, hS, h3, h4⟩ := I2.sett hi
  refine call_set_add (intKind_is prog w k t) rfl hS (by unfold scanBound; omega) fun h' hsb hS' => hq _ ?_
  obtain ⟨o, es, ep, tt, ho, r⟩ := hS'
  refine I2.upd hi hsb ⟨o, ho, _, _, ⟨es, ep, tt, r⟩, fun k' => ?_, ?_⟩ rfl rfl rfl
  · simp [h3]
  · split <;> simp <;> omega
end
end Mine
end
-- MN6
section
open PySem PySem.W PyProof.Rows
set_option maxRecDepth 100000
set_option maxHeartbeats 4000000
namespace Mine
section
variable {prog : Program} {w : World} {A : Around} {E : Value → Shared → Prop} {s s' : Shared}
variable {g : Heap} {G : Array GenState} {O : OsState} {L : Addr} {m : List (Str × VP)} {objs : List (Addr × OP)} {env : Env} {names : List (Str × NameKind)} {cs : List (Str × Addr)}
theorem callSub {M : Model} {v i : Expr} {p pos : Pos} {Q : Value → Shared → Prop} (h : wpAny M A (eval (.Subscript v i p) env) (fun f s₁ => wpAny M A (callWith pos f [] [] []) Q E s₁) E s) : wpAny M A (eval (.Call (.Subscript v i p) [] [] pos) env) Q E s := by
  rw [show eval (.Call (.Subscript v i p) [] [] pos) env = (do callWith pos (← eval (.Subscript v i p) env) [] (backTo pos (starEach [] env)) (backToKw pos (keywordEach [] env))) from rfl]
  exact wpAny_bind h
theorem callWrap {M : Model} {pos : Pos} {q it : Addr} {Q : Value → Shared → Prop} (hq : s.heap.get? q = some (wrapO it)) (h : wpAny M A (call (.ref q) []) Q E s) : wpAny M A (callWith pos (.ref q) [] [] []) Q E s := by
  unfold callWith
  refine wpAny_bind (wpAny_holding (wpAny_mono (Q := fun a s₁ => a = ⟨[], []⟩ ∧ s₁ = s) (E := E) (PySem.evalArgs_none ⟨rfl, rfl⟩) (fun a s₁ ⟨e1, e2⟩ => wpAny_bind (wpAny_standAt ?_)) fun _ _ x => x))
  subst e1 e2
  simp only [List.any_nil, Bool.or_false]
  refine wpAny_bind (m := keeperOf (.ref q)) ?_
  unfold keeperOf
  refine wpAny_bind (wpAny_load hq ?_)
  simp only [show (Value.type "method-wrapper" != Value.type "method") = true by decide, show (Value.type "method-wrapper" == Value.type "builtin_function_or_method" || Value.type "method-wrapper" == Value.type "method-wrapper") = true by decide, if_true]
  refine wpAny_pure ?_
  exact wpAny_bind (wpAny_mono h (fun r s₂ hr => wpAny_bind (wpAny_holding (wpAny_point (wpAny_pure hr)))) fun _ _ x => x)
theorem subscrLast {value slice : Expr} {i : Nat} {l : Addr} {ps : List VP} {t : Tok} {P : VP} {Q : Value → Shared → Prop} (I : St g G O L m objs s) (hi : objs[i]? = some (l, isL (ps ++ [P]))) (hz : ps.length ≤ 1000)
    (h : ∀ v, P v → Q v s) (hs : subscripted slice false (.ref l) (.int (-1) t) = operate [.ref l, .int (-1) t] (getItem (.ref l) (.int (-1) t)) := by rfl) :
    wpAny (model prog w) A (subscriptTail value slice (.ref l) (.int (-1) t)) Q E s := by
  obtain ⟨vs, n, h1, h2⟩ := I.list hi
  have hl : vs.length = ps.length + 1 := by rw [← h2.1]; simp
  obtain ⟨v, h3, h4⟩ := h2.get (i := ps.length) (P := P) (by simp)
  refine tail_any (isList_of h1).typeIs slot_list_getitem.lookup (wpAny_getItem_list_neg (x := v) (isList_of h1) (by omega) (by simp; omega) (by decide) ?_ (h v h4)) hs
  rw [List.size_toArray, hl]
  simp only [show ((-1 : Int) + ((ps.length + 1 : Nat) : Int)).toNat = ps.length by omega]
  simpa using h3
theorem delS {M : Model} {o i : Expr} {p pos : Pos} {Q : Flow → Shared → Prop} (h : wpAny M A (eval o env) (fun ov s₁ => wpAny M A (eval i env) (fun iv s₂ => wpAny M A (delItem ov iv) (fun _ s₃ => Q .next s₃) E s₂) E s₁) E s) : wpAny M A (exec (.Delete [.Subscript o i p] pos) env) Q E s := by
  exact wpAny_Delete (wpAny_deleteEach_cons (wpAny_delete_Subscript (wpAny_mono h (fun ov s₁ h₁ => wpAny_mono h₁ (fun iv s₂ h₂ => wpAny_mono h₂ (fun _ s₃ z => wpAny_deleteEach_nil z) fun _ _ x => x) fun _ _ x => x) fun _ _ x => x)))
end
end Mine
end
-- MH
section
open PySem PySem.W PyProof.Rows
set_option maxRecDepth 100000
set_option maxHeartbeats 4000000
namespace Mine
section
variable {prog : Program} {w : World} {A : Around} {E : Value → Shared → Prop} {s : Shared}
variable {g : Heap} {G : Array GenState} {O : OsState} {L : Addr} {m : List (Str × VP)} {objs : List (Addr × OP)}

theorem heappush_call {i : Nat} {l : Addr} {xs : List Int} {x : Int} {t : Tok} {Q : Value → Shared → Prop} (I : St g G O L m objs s) (hW : W w g) (hroom : A.depth < 890)
    (hi : objs[i]? = some (l, isLI xs)) (hlen : xs.length ≤ 90)
    (h : ∀ s', St g G O L m (objs.set i (l, isLI (sd (xs ++ [x]) xs.length x))) s' → Q .none s') :
    wpAny (model prog w) A (call (.ref 45) [.ref l, .int x t]) Q E s := by
  refine call_fn (bs := [("heap", .ref l), ("item", .int x t)]) I hW (by unfold recursionLimit; omega) rfl rfl rfl rfl (BindsTo.of_eq rfl) rfl rfl ?_
  intro g' L' s' env HE hW' I' E'
  refine post_gen fun Q0 hQ0 => ?_
  dsimp only at HE
  have I1 := I'.loc (m' := [("heap", isV (.ref l)), ("item", isI x)]) ⟨⟨_, rfl, fun _ x => x⟩, ⟨_, rfl, fun _ x => ⟨_, x⟩⟩, trivial⟩
  clear I'
  refine wpAny_execs_cons ?_; refine exprS (by assumption) ?_; refine methodCall_KW ?_; refine ldV (by assumption) (by assumption) (by rfl) ?_

  refine meth_of_on (appM I1 hi ?_)
  refine ldI (by assumption) (by assumption) (by rfl) (fun _ => ?_)
  refine appLI I1 hi ?_
  intro s2 I2
  have hi2 := set_here (q := (l, isLI (xs ++ [x]))) hi
  refine wpAny_execs_cons ?_; refine exprS (by assumption) ?_; refine wpAny_Call_NameR ?_; refine ldG (by assumption) (by assumption) (by assumption) (g_siftdown _) ?_; refine callWith_K (W.k (by assumption)) (by with_unfolding_all rfl) ?_; refine PyProof.Rows.args_cons ?_; refine ldV (by assumption) (by assumption) (by rfl) ?_; refine PyProof.Rows.args_cons ?_; refine cI (by assumption) (fun _ _ _ => ?_); refine PyProof.Rows.args_cons ?_; refine wpAny_BinOp ?_; refine wpAny_Call_NameR ?_; refine ldB (by assumption) (by assumption) (by assumption) (g_len _) b_len ?_; refine PyProof.Rows.callWith_builtin1 ?_; refine PyProof.Rows.args_cons ?_; refine ldV (by assumption) (by assumption) (by rfl) ?_; refine PyProof.Rows.args_nil ?_
  rename St _ _ _ _ _ _ _ => I3
  refine lenL I3 hi2 ?_ (by simp; omega)
  intro t2 s3 I3
  refine cI (by assumption) (fun _ _ _ => ?_); refine oSub (by assumption) (fun _ _ _ => ?_); refine PyProof.Rows.args_nil ?_; refine ⟨St.inK (by assumption) (by assumption), ?_⟩
  rename St _ _ _ _ _ _ _ => I4
  have e : (((List.map isI (xs ++ [x])).length : Int) - 1) = (xs.length : Nat) := by simp
  rw [e]
  refine siftdown_call I4 hW' (by simp only [Around.deeper]; omega) hi2 (by simp) (by simp; omega) ?_
  intro s5 I5
  refine wpAny_execs_nil (hQ0 _ _ ⟨_, _, I5, fun J => ?_⟩)
  rw [List.set_set] at J
  refine h _ ?_
  have : (xs ++ [x]).getD xs.length 0 = x := by simp
  rw [this] at J
  exact J

theorem siftup_call {i : Nat} {l : Addr} {xs : List Int} {t : Tok} {Q : Value → Shared → Prop} (I : St g G O L m objs s) (hW : W w g) (hroom : A.depth < 890)
    (hi : objs[i]? = some (l, isLI xs)) (hpos : 0 < xs.length) (hlen : xs.length ≤ 90)
    (h : ∀ s', St g G O L m (objs.set i (l, isLI (su xs))) s' → Q .none s') :
    wpAny (model prog w) A (call (.ref 66) [.ref l, .int 0 t]) Q E s := by
  refine call_fn (bs := [("heap", .ref l), ("pos", .int 0 t)]) I hW (by unfold recursionLimit; omega) rfl rfl rfl rfl (BindsTo.of_eq rfl) rfl rfl ?_
  intro g' L' s' env HE hW' I' E'
  refine post_gen fun Q0 hQ0 => ?_
  dsimp only at HE
  have I1 := I'.loc (m' := [("heap", isV (.ref l)), ("pos", isI 0)]) ⟨⟨_, rfl, fun _ x => x⟩, ⟨_, rfl, fun _ x => ⟨_, x⟩⟩, trivial⟩
  clear I'
  refine wpAny_execs_cons ?_; refine wpAny_Assign_Name ?_; refine wpAny_Call_NameR ?_; refine ldB (by assumption) (by assumption) (by assumption) (g_len _) b_len ?_; refine PyProof.Rows.callWith_builtin1 ?_; refine PyProof.Rows.args_cons ?_; refine ldV (by assumption) (by assumption) (by rfl) ?_; refine PyProof.Rows.args_nil ?_
  refine lenL I1 hi ?_ (by simp; omega)
  intro t2 s3 I3
  refine sto (P := isI _) (by assumption) (by assumption) ⟨_, rfl⟩ (fun _ _ => ?_); refine wpAny_execs_cons ?_; refine wpAny_Assign_Name ?_; refine ldI (by assumption) (by assumption) (by rfl) (fun _ => ?_); refine sto (P := isI _) (by assumption) (by assumption) ⟨_, rfl⟩ (fun _ _ => ?_); refine wpAny_execs_cons ?_; refine wpAny_Assign_Name ?_; refine Subscript_ ?_; refine ldV (by assumption) (by assumption) (by rfl) ?_; refine ldI (by assumption) (by assumption) (by rfl) (fun _ => ?_)
  rename St _ _ _ _ _ _ _ => I4
  refine subscrI I4 hi (by omega) (isLI_get (p := 0) hpos) (fun t5 => ?_)
  refine sto (P := isI _) (by assumption) (by assumption) ⟨_, rfl⟩ (fun _ _ => ?_); refine wpAny_execs_cons ?_; refine wpAny_Assign_Name ?_; refine wpAny_BinOp ?_; refine wpAny_BinOp ?_; refine cI (by assumption) (fun _ _ _ => ?_); refine ldI (by assumption) (by assumption) (by rfl) (fun _ => ?_)
  rename St _ _ _ _ _ _ _ => I6
  refine oMul I6 ?_
  intro t7 s7 I7
  refine cI (by assumption) (fun _ _ _ => ?_); refine oAdd (by assumption) (fun _ _ _ => ?_); refine sto (P := isI _) (by assumption) (by assumption) ⟨_, rfl⟩ (fun _ _ => ?_); refine wpAny_execs_cons ?_
  rename St _ _ _ _ _ _ _ => I8
  rw [show ((xs.map isI).length : Int) = xs.length by simp] at I8
  clear I1 I3 I4 I6 I7
  generalize hn : xs.length = n at *
  generalize hx : xs.getD 0 0 = x at *
  refine wpAny_While ?_
  refine codeAny_mono (R := fun r s4 => r = .ok .next ∧ ∃ (q : Nat) (zs : List Int) (m4 : List (Str × VP)), q < zs.length ∧ zs.length = n ∧ suLoop xs n 0 n = (zs, q) ∧
    St g' G O L' m4 (objs.set i (l, isLI zs)) s4 ∧ m4.lookup (Str.ofString "newitem") = some (isI x) ∧ m4.lookup (Str.ofString "heap") = some (isV (.ref l)) ∧ m4.lookup (Str.ofString "pos") = some (isI q) ∧ m4.lookup (Str.ofString "startpos") = some (isI 0)) ?loop ?aft
  case aft =>
    rintro r s4 ⟨rfl, q, zs, m4, hq, hzl, hz, I4, e1, e2, e3, e4⟩
    have I4' := I4.loc (m' := [("heap", isV (.ref l)), ("newitem", isI x), ("pos", isI q), ("startpos", isI 0)]) ⟨⟨_, e2, fun _ x => x⟩, ⟨_, e1, fun _ x => x⟩, ⟨_, e3, fun _ x => x⟩, ⟨_, e4, fun _ x => x⟩, trivial⟩
    clear I4
    refine wpAny_execs_cons ?_; refine wpAny_Assign_Subscript ?_; refine ldI (by assumption) (by assumption) (by rfl) (fun _ => ?_); refine ldV (by assumption) (by assumption) (by rfl) ?_; refine ldI (by assumption) (by assumption) (by rfl) (fun _ => ?_)
    refine setI I4' (set_here hi) (by omega) (by simpa using hq) (P := isI x) ⟨_, rfl⟩ ?_
    intro s5 I5
    rw [List.set_set, map_set_isI, show ((q : Int)).toNat = q from rfl] at I5
    have hi5 := set_here (q := (l, isLI (zs.set q x))) hi
    refine wpAny_execs_cons ?_; refine exprS (by assumption) ?_; refine wpAny_Call_NameR ?_; refine ldG (by assumption) (by assumption) (by assumption) (g_siftdown _) ?_; refine callWith_K (W.k (by assumption)) (by with_unfolding_all rfl) ?_; refine PyProof.Rows.args_cons ?_; refine ldV (by assumption) (by assumption) (by rfl) ?_; refine PyProof.Rows.args_cons ?_; refine ldI (by assumption) (by assumption) (by rfl) (fun _ => ?_); refine PyProof.Rows.args_cons ?_; refine ldI (by assumption) (by assumption) (by rfl) (fun _ => ?_); refine PyProof.Rows.args_nil ?_; refine ⟨St.inK (by assumption) (by assumption), ?_⟩
    refine siftdown_call I5 hW' (by simp only [Around.deeper]; omega) hi5 (by simpa using hq) (by simp; omega) ?_
    intro s6 I6
    refine wpAny_execs_nil (hQ0 _ _ ⟨_, _, I6, fun J => ?_⟩)
    rw [List.set_set] at J
    refine h _ ?_
    unfold su
    rw [hn, hx, hz]
    dsimp only
    rw [show (zs.set q x).getD q 0 = x by simp [hq]] at J
    exact J
  refine whileQ (I := fun k s => ∃ ys p f, k = n - p ∧ p < ys.length ∧ ys.length = n ∧ n - p ≤ f ∧ suLoop ys n p f = suLoop xs n 0 n ∧
    St g' G O L' [("childpos", isI (2 * p + 1)), ("newitem", isI x), ("startpos", isI 0), ("endpos", isI n), ("heap", isV (.ref l)), ("pos", isI p)] (objs.set i (l, isLI ys)) s) ?_ n
    ⟨xs, 0, n, rfl, by omega, hn, by omega, rfl, by rw [set_self hi]; exact I8⟩
  intro k s3 hI E1 B hB hBb hBr T1 hT hF
  obtain ⟨ys, p, f, hk, hp, hyl, hf, hsu, I3⟩ := hI
  have hi3 := set_here (q := (l, isLI ys)) hi
  refine wpAny_isTrue_Compare1 ?_; refine ldI (by assumption) (by assumption) (by rfl) (fun _ => ?_); refine ldI (by assumption) (by assumption) (by rfl) (fun _ => ?_)
  refine tLt ?_ ?_
  · intro hlt
    obtain ⟨f', rfl⟩ : ∃ f', f = f' + 1 := ⟨f - 1, by omega⟩
    refine hT _ ?_; refine wpAny_execs_cons ?_; refine wpAny_Assign_Name ?_; refine wpAny_BinOp ?_; refine ldI (by assumption) (by assumption) (by rfl) (fun _ => ?_); refine cI (by assumption) (fun _ _ _ => ?_); refine oAdd (by assumption) (fun _ _ _ => ?_); refine sto (P := isI _) (by assumption) (by assumption) ⟨_, rfl⟩ (fun _ _ => ?_); refine wpAny_execs_cons ?_
    rename St _ _ _ _ _ _ _ => I4
    clear I3
    refine wpAny_mono (Q := fun fl s5 => fl = .next ∧ ∃ c : Nat, c = (if 2 * p + 2 < n ∧ ¬ ys.getD (2 * p + 1) 0 < ys.getD (2 * p + 2) 0 then 2 * p + 2 else 2 * p + 1) ∧
      St g' G O L' [("childpos", isI c), ("newitem", isI x), ("startpos", isI 0), ("endpos", isI n), ("heap", isV (.ref l)), ("pos", isI p)] (objs.set i (l, isLI ys)) s5) ?ifA ?ifB fun _ _ x => x
    case ifB =>
      rintro fl s5 ⟨rfl, c, hc, I5⟩
      have hcn : c < n ∧ p < c := by rw [hc]; split <;> omega
      refine wpAny_execs_cons ?_; refine wpAny_Assign_Subscript ?_; refine Subscript_ ?_; refine ldV (by assumption) (by assumption) (by rfl) ?_; refine ldI (by assumption) (by assumption) (by rfl) (fun _ => ?_)
      refine subscrI I5 hi3 (by omega) (isLI_get (p := c) (by omega)) (fun t6 => ?_)
      refine ldV (by assumption) (by assumption) (by rfl) ?_; refine ldI (by assumption) (by assumption) (by rfl) (fun _ => ?_)
      refine setI I5 hi3 (by omega) (by simp; omega) (P := isI _) ⟨_, rfl⟩ ?_
      intro s7 I7
      refine wpAny_execs_cons ?_; refine wpAny_Assign_Name ?_; refine ldI (by assumption) (by assumption) (by rfl) (fun _ => ?_); refine sto (P := isI _) (by assumption) (by assumption) ⟨_, rfl⟩ (fun _ _ => ?_); refine wpAny_execs_cons ?_; refine wpAny_Assign_Name ?_; refine wpAny_BinOp ?_; refine wpAny_BinOp ?_; refine cI (by assumption) (fun _ _ _ => ?_); refine ldI (by assumption) (by assumption) (by rfl) (fun _ => ?_)
      rename St _ _ _ _ _ _ _ => I8
      refine oMul I8 ?_
      intro t9 s9 I9
      refine cI (by assumption) (fun _ _ _ => ?_); refine oAdd (by assumption) (fun _ _ _ => ?_); refine sto (P := isI _) (by assumption) (by assumption) ⟨_, rfl⟩ (fun _ _ => ?_)
      rename St _ _ _ _ _ _ _ => I10
      refine wpAny_execs_nil (hB _ _ (.inl rfl) ?_)
      rw [List.set_set, map_set_isI, show (p : Int).toNat = p from rfl] at I10
      refine ⟨n - c, by omega, _, c, f', rfl, ?_, ?_, by omega, ?_, I10.loc ⟨⟨_, rfl, fun _ x => x⟩, ⟨_, rfl, fun _ x => x⟩, ⟨_, rfl, fun _ x => x⟩, ⟨_, rfl, fun _ x => x⟩, ⟨_, rfl, fun _ x => x⟩, ⟨_, rfl, fun _ x => x⟩, trivial⟩⟩
      · simp; omega
      · simpa using hyl
      · rw [← hsu, suLoop_step ys n p c (by omega) hc]
    refine wpAny_If ?_
    refine wpAny_isTrue_BoolOp ?_; refine wpAny_allTrue_And_cons ?_; refine wpAny_isTrue_Compare1 ?_; refine ldI (by assumption) (by assumption) (by rfl) (fun _ => ?_); refine ldI (by assumption) (by assumption) (by rfl) (fun _ => ?_)
    refine tLt ?_ ?_
    · intro h1
      refine ifT ?_; refine wpAny_allTrue_And_cons ?_; refine wpAny_isTrue_Not ?_; refine wpAny_isTrue_Compare1 ?_; refine Subscript_ ?_; refine ldV (by assumption) (by assumption) (by rfl) ?_; refine ldI (by assumption) (by assumption) (by rfl) (fun _ => ?_)
      refine subscrI I4 hi3 (by omega) (isLI_get (p := 2 * p + 1) (by omega)) (fun t6 => ?_)
      refine Subscript_ ?_; refine ldV (by assumption) (by assumption) (by rfl) ?_; refine ldI (by assumption) (by assumption) (by rfl) (fun _ => ?_)
      refine subscrI I4 hi3 (by omega) (isLI_get (p := 2 * p + 2) (by omega)) (fun t7 => ?_)
      refine tLt ?_ ?_
      · intro h2
        rw [if_neg (show ¬ ((!true) = true) from Bool.false_ne_true)]; refine ifF ?_
        refine wpAny_execs_nil ⟨rfl, 2 * p + 1, ?_, I4.loc ⟨⟨_, rfl, fun _ x => x⟩, ⟨_, rfl, fun _ x => x⟩, ⟨_, rfl, fun _ x => x⟩, ⟨_, rfl, fun _ x => x⟩, ⟨_, rfl, fun _ x => x⟩, ⟨_, rfl, fun _ x => x⟩, trivial⟩⟩
        rw [if_neg (fun q => q.2 h2)]
      · intro h2
        rw [if_pos (show (!false) = true from rfl)]; refine wpAny_allTrue_And_nil ?_; refine ifT ?_; refine wpAny_execs_cons ?_; refine wpAny_Assign_Name ?_; refine ldI (by assumption) (by assumption) (by rfl) (fun _ => ?_); refine sto (P := isI _) (by assumption) (by assumption) ⟨_, rfl⟩ (fun _ _ => ?_)
        rename St _ _ _ _ _ _ _ => I5
        rw [show ((2 : Int) * p + 1 + 1) = ((2 * p + 2 : Nat) : Int) by omega] at I5
        refine wpAny_execs_nil ⟨rfl, 2 * p + 2, ?_, I5.loc ⟨⟨_, rfl, fun _ x => x⟩, ⟨_, rfl, fun _ x => x⟩, ⟨_, rfl, fun _ x => x⟩, ⟨_, rfl, fun _ x => x⟩, ⟨_, rfl, fun _ x => x⟩, ⟨_, rfl, fun _ x => x⟩, trivial⟩⟩
        rw [if_pos ⟨by omega, h2⟩]
    · intro h1
      refine ifF ?_; refine ifF ?_
      refine wpAny_execs_nil ⟨rfl, 2 * p + 1, ?_, I4.loc ⟨⟨_, rfl, fun _ x => x⟩, ⟨_, rfl, fun _ x => x⟩, ⟨_, rfl, fun _ x => x⟩, ⟨_, rfl, fun _ x => x⟩, ⟨_, rfl, fun _ x => x⟩, ⟨_, rfl, fun _ x => x⟩, trivial⟩⟩
      rw [if_neg (by omega)]
  · intro hng
    refine hF _ (wpAny_execs_nil ?_)
    refine ⟨rfl, p, ys, _, hp, hyl, ?_, I3, rfl, rfl, rfl, rfl⟩
    rw [← hsu]
    exact suLoop_end _ _ _ (by omega) _

theorem heappop_call {i : Nat} {l : Addr} {ys : List Int} {z : Int} {Q : Value → Shared → Prop} (I : St g G O L m objs s) (hW : W w g) (hroom : A.depth < 880)
    (hi : objs[i]? = some (l, isLI (ys ++ [z]))) (hlen : ys.length ≤ 80)
    (h1 : ys = [] → ∀ t s', St g G O L m (objs.set i (l, isLI [])) s' → Q (.int z t) s')
    (h2 : ys ≠ [] → ∀ t s', St g G O L m (objs.set i (l, isLI (su (ys.set 0 z)))) s' → Q (.int (ys.getD 0 0) t) s') :
    wpAny (model prog w) A (call (.ref 52) [.ref l]) Q E s := by
  refine call_fn (bs := [("heap", .ref l)]) I hW (by unfold recursionLimit; omega) rfl rfl rfl rfl (BindsTo.of_eq rfl) rfl rfl ?_
  intro g' L' s' env HE hW' I' E'
  refine post_gen fun Q0 hQ0 => ?_
  dsimp only at HE
  have I1 := I'.loc (m' := [("heap", isV (.ref l))]) ⟨⟨_, rfl, fun _ x => x⟩, trivial⟩
  clear I'
  refine wpAny_execs_cons ?_; refine wpAny_Assign_Name ?_; refine methodCall_KW ?_; refine ldV (by assumption) (by assumption) (by rfl) ?_
  refine meth_of_on (popLI I1 hi ?_)
  intro t2 s2 I2
  have hi2 := set_here (q := (l, isLI ys)) hi
  refine sto (P := isI _) (by assumption) (by assumption) ⟨_, rfl⟩ (fun _ _ => ?_); refine wpAny_execs_cons ?_
  rename St _ _ _ _ _ _ _ => I3
  refine wpAny_If ?_
  refine wpAny_isTrue_value ?_; refine ldV (by assumption) (by assumption) (by rfl) ?_
  refine truthyL I3 hi2 ?_ (by simp; omega)
  intro s4 I4
  cases ys with
  | nil =>
    show ite (false = true) _ _
    refine ifF ?_
    refine wpAny_execs_nil ?_
    refine wpAny_execs_cons ?_; refine wpAny_Return_some ?_; refine ldI (by assumption) (by assumption) (by rfl) (fun _ => ?_)
    refine hQ0 _ _ ⟨_, _, I4, fun J => ?_⟩
    exact h1 rfl _ _ J
  | cons y ys =>
    show ite (true = true) _ _
    refine ifT ?_; refine wpAny_execs_cons ?_; refine wpAny_Assign_Name ?_; refine Subscript_ ?_; refine ldV (by assumption) (by assumption) (by rfl) ?_; refine cI (by assumption) (fun _ _ _ => ?_)
    rename St _ _ _ _ _ _ _ => I5
    refine subscrI I5 hi2 (by omega) (isLI_get (p := 0) (by simp)) (fun t6 => ?_)
    refine sto (P := isI _) (by assumption) (by assumption) ⟨_, rfl⟩ (fun _ _ => ?_); refine wpAny_execs_cons ?_; refine wpAny_Assign_Subscript ?_; refine ldI (by assumption) (by assumption) (by rfl) (fun _ => ?_); refine ldV (by assumption) (by assumption) (by rfl) ?_; refine cI (by assumption) (fun _ _ _ => ?_)
    rename St _ _ _ _ _ _ _ => I6
    refine setI I6 hi2 (by omega) (by simp) (P := isI z) ⟨_, rfl⟩ ?_
    intro s7 I7
    rw [List.set_set, map_set_isI] at I7
    have hi7 := set_here (q := (l, isLI ((y :: ys).set (Int.toNat 0) z))) hi
    refine wpAny_execs_cons ?_; refine exprS (by assumption) ?_; refine wpAny_Call_NameR ?_; refine ldG (by assumption) (by assumption) (by assumption) (g_siftup _) ?_; refine callWith_K (W.k (by assumption)) (by with_unfolding_all rfl) ?_; refine PyProof.Rows.args_cons ?_; refine ldV (by assumption) (by assumption) (by rfl) ?_; refine PyProof.Rows.args_cons ?_; refine cI (by assumption) (fun _ _ _ => ?_); refine PyProof.Rows.args_nil ?_; refine ⟨St.inK (by assumption) (by assumption), ?_⟩
    rename St _ _ _ _ _ _ _ => I8
    refine siftup_call I8 hW' (by simp only [Around.deeper]; omega) hi7 (by simp) (by simp at hlen ⊢; omega) ?_
    intro s9 I9
    refine wpAny_execs_cons ?_; refine wpAny_Return_some ?_; refine ldI (by assumption) (by assumption) (by rfl) (fun _ => ?_)
    refine hQ0 _ _ ⟨_, _, I9, fun J => ?_⟩
    rw [List.set_set] at J
    exact h2 (by simp) _ _ J

theorem heappush_heap {i : Nat} {l : Addr} {hs : List Int} {x : Int} {t : Tok} {Q : Value → Shared → Prop} (I : St g G O L m objs s) (hW : W w g) (hroom : A.depth < 890)
    (hi : objs[i]? = some (l, isLI hs)) (hlen : hs.length ≤ 80) (hH : IsH hs)
    (h : ∀ hs' s', IsH hs' → hs'.Perm (x :: hs) → St g G O L m (objs.set i (l, isLI hs')) s' → Q .none s') :
    wpAny (model prog w) A (call (.ref 45) [.ref l, .int x t]) Q E s :=
  heappush_call I hW hroom hi (by omega) fun s' I' => h _ s' (push_heap hH x).1 (push_heap hH x).2 I'

theorem heappop_heap {i : Nat} {l : Addr} {hs : List Int} {x : Int} {r : List Int} {Q : Value → Shared → Prop} (I : St g G O L m objs s) (hW : W w g) (hroom : A.depth < 880)
    (hi : objs[i]? = some (l, isLI hs)) (hlen : hs.length ≤ 80) (hH : IsH hs) (hs' : srt hs = x :: r)
    (h : ∀ t us s', IsH us → (x :: us).Perm hs → St g G O L m (objs.set i (l, isLI us)) s' → Q (.int x t) s') :
    wpAny (model prog w) A (call (.ref 52) [.ref l]) Q E s := by
  have hne : hs ≠ [] := by
    rintro rfl
    have := srt_length []
    rw [hs'] at this; simp at this
  have hx := heap_pop hH hs'
  obtain ⟨ys, z, rfl⟩ : ∃ ys z, hs = ys ++ [z] := ⟨hs.dropLast, hs.getLast hne, (List.dropLast_concat_getLast _).symm⟩
  refine heappop_call I hW hroom hi (by simp at hlen; omega) (fun e t s' I' => ?_) (fun e t s' I' => ?_)
  · subst e
    have : z = x := by simpa using hx
    subst this
    exact h t [] s' (fun i hi hl => by simp at hl) (.refl _) I'
  · have hys : (ys ++ [z]).getD 0 0 = ys.getD 0 0 := by
      cases ys with
      | nil => exact absurd rfl e
      | cons y ys => rfl
    rw [← hys, hx]
    have := su_spec hH e
    exact h t _ s' this.1 (by rw [← hx, hys]; exact this.2) I'
end
end Mine
end
-- MV
section
open PySem PySem.W PyProof.Rows
set_option maxRecDepth 100000
set_option maxHeartbeats 4000000
namespace Mine

section
variable {prog : Program} {w : World} {A : Around} {E : Value → Shared → Prop} {s : Shared}
variable {g : Heap} {G : Array GenState} {O : OsState} {L : Addr} {m : List (Str × VP)} {objs : List (Addr × OP)}

theorem served_call {i j : Nat} {lg lw : Addr} {gs ws : List Int} {head turn : Int} {t0 t1 : Tok} {Q : Value → Shared → Prop} (I : St g G O L m objs s) (hW : W w g) (hroom : A.depth < 870) (hh : A.handled = none) (hun : A.units < 9000)
    (hi : objs[i]? = some (lg, isLI gs)) (hj : objs[j]? = some (lw, isLI ws)) (hij : i ≠ j) (hlg : gs.length = 15) (hlw : ws.length = 15) (hnd : gs.Nodup)
    (h : ∀ T wa ov was s', was.length = (runW (callsOf gs ws turn) 17 0 [head]).length →
      St g G O L m (objs ++ ([(T, isT [vref wa, vref ov]), (wa, isL (was.map vref)), (ov, isD prog w ((runO (callsOf gs ws turn) 17 0 [head]).map fun p => (p.1, isI p.2)))] ++ fam was (runW (callsOf gs ws turn) 17 0 [head]))) s' → Q (.ref T) s') :
    wpAny (model prog w) A (call (.ref 279) [.int head t0, .ref lg, .ref lw, .int turn t1]) Q E s := by
  obtain ⟨g1, I1, hg1, back⟩ := I.focus2 hi hj hij
  refine call_fn (bs := [("head", .int head t0), ("guests", .ref lg), ("wishes", .ref lw), ("turn", .int turn t1)]) I1 (hW.keeps hg1) (by unfold recursionLimit; omega) rfl rfl rfl rfl (BindsTo.of_eq rfl) rfl rfl ?_
  intro g' L' s' env HE hW' I' E'
  refine post_gen fun Q0 hQ0 => ?_
  dsimp only at HE
  have I2 := I'.loc (m' := [("head", isI head), ("guests", vref lg), ("wishes", vref lw), ("turn", isI turn)]) ⟨⟨_, rfl, fun _ x => ⟨_, x⟩⟩, ⟨_, rfl, fun _ x => x⟩, ⟨_, rfl, fun _ x => x⟩, ⟨_, rfl, fun _ x => ⟨_, x⟩⟩, trivial⟩
  clear I'
  refine wpAny_execs_cons ?_
  refine lcompU HE rfl ?_
  refine wpAny_Call_NameR ?_; refine ldB (by assumption) (by assumption) (by assumption) (g_range _) b_range ?_; refine PyProof.Rows.callWith_type1 ?_; refine PyProof.Rows.args_cons ?_; refine cI (by assumption) (fun _ _ _ => ?_); refine PyProof.Rows.args_nil ?_
  rename St _ _ _ _ _ _ _ => I3
  refine range1 I3 ?_
  intro r s4 I4
  refine iterRn 16 I4 (i := 2) rfl (by decide) (by decide) ?_
  intro it s5 I5
  refine compLU (It.range (by exact hh) it 0 1 16) HE (fun k qs objs' => ∃ cas : List Addr, cas.length = k ∧ k ≤ 16 ∧ qs = cas.map vref ∧ objs' = [(lg, isLI gs), (lw, isLI ws), (r, isRng 0 16 1)] ++ fam cas (List.replicate k [])) ⟨[], rfl, by omega, rfl, rfl⟩ (fun k qs objs' h p hp => nomatch hp)
    (fun k qs objs' h => by obtain ⟨cas, h1, h2, rfl, _⟩ := h; simp; omega) I5 ?turn1 ?fin1
  case turn1 =>
    intro k g2 C cenv s6 qs objs2 hg2 HC hk hI I6 E2
    refine wpAny_tests_nil ?_
    refine ifT (post_gen fun Q1 hQ1 => ?_)
    obtain ⟨cas, hc, hk16, rfl, rfl⟩ := hI
    refine PyProof.Rows.List_ ?_; refine PyProof.Rows.args_nil ?_
    refine newL (ps := []) I6 .nil ?_
    intro a s7 I7
    refine hQ1 _ _ ⟨_, _, vref a, rfl, ⟨cas ++ [a], by simp [hc], by omega, by simp, ?_⟩, I7⟩
    rw [List.append_assoc]
    congr 1
    rw [List.replicate_succ', fam_append (by simp [hc])]
    rfl
  case fin1 =>
    rintro cl qs objs2 s6 ⟨cas, hc, _, rfl, rfl⟩ C I6
    refine wpAny_assign_Name (sto HE I6 (P := vref cl) rfl ?_)
    intro s7 I7
    refine ⟨_, _, I7, ?_⟩
    intro s8 I8
    have I9 : St g' G O L' [("calls", vref cl), ("head", isI head), ("guests", vref lg), ("wishes", vref lw), ("turn", isI turn)] ([(lg, isLI gs), (lw, isLI ws)] ++ ([(cl, isL (cas.map vref))] ++ fam cas (cssOf [] [] turn))) s8 := by
      rw [cssOf_nil]
      refine (I8.subO (objs' := ([(lg, isLI gs), (lw, isLI ws)] ++ fam cas (List.replicate 16 [])) ++ [(cl, isL (cas.map vref))]) ?_).perm ?_
      · refine List.Sublist.append_right ?_ _
        exact (List.Sublist.cons_cons _ (List.Sublist.cons_cons _ (List.Sublist.cons _ (List.Sublist.refl _))))
      · rw [List.append_assoc]
        exact List.Perm.append_left _ (List.perm_append_comm ..)
    clear I6 I7 I8
    refine wpAny_execs_cons ?_
    refine wpAny_For ?_
    refine wpAny_Call_NameR ?_; refine ldB (by assumption) (by assumption) (by assumption) (g_zip _) b_zip ?_; refine PyProof.Rows.callWith_type1 ?_; refine PyProof.Rows.args_cons ?_; refine ldV (by assumption) (by assumption) (by rfl) ?_; refine PyProof.Rows.args_cons ?_; refine ldV (by assumption) (by assumption) (by rfl) ?_; refine PyProof.Rows.args_nil ?_
    refine callZip I9 (i := 0) (j := 1) rfl rfl ?_
    intro z TI TO i1 i2 s10 hD I10
    have Z : It2 prog w (A.deeper env) z _ _ _ _ _ := It2.zip (by exact hh) z TI TO i1 i2 lg lw (gs.map isI) (ws.map isI) (by simp [hlg, hlw]) hD
    refine Z.self 0 I10 ?_
    refine forI2 (by exact hh) Z HE (fun k m' objs' => m' = [nm "calls" (vref cl), nm "head" (isI head), nm "guests" (vref lg), nm "wishes" (vref lw), nm "turn" (isI turn)] ∧
      objs' = [(lg, isLI gs), (lw, isLI ws)] ++ ([(cl, isL (cas.map vref))] ++ fam cas (cssOf (gs.take k) (ws.take k) turn))) ⟨rfl, rfl⟩
      (fun k m' objs' h p hp => by
        rw [h.2]
        simp only [List.mem_cons, List.not_mem_nil, or_false] at hp
        rcases hp with rfl | rfl
        · exact .head _
        · exact .tail _ (.head _)) I10 ?turn2 ?fin2
    case turn2 =>
      intro k g2 m2 objs2 s11 hg2 hk hI I11 E2
      refine post_gen fun Q1 hQ1 => ?_
      obtain ⟨rfl, rfl⟩ := hI
      have hk15 : k < 15 := by simpa [hlg] using hk
      have hkg : k < gs.length := by omega
      have hkw : k < ws.length := by omega
      have I12 := I11.loc (m' := [("wish", isI (ws.getD k 0)), ("guest", isI (gs.getD k 0)), ("calls", vref cl), ("head", isI head), ("guests", vref lg), ("wishes", vref lw), ("turn", isI turn)])
        ⟨⟨_, rfl, fun v hv => hv _ (isLI_get hkw)⟩, ⟨_, rfl, fun v hv => hv _ (isLI_get hkg)⟩, ⟨_, rfl, fun _ x => x⟩, ⟨_, rfl, fun _ x => x⟩, ⟨_, rfl, fun _ x => x⟩, ⟨_, rfl, fun _ x => x⟩, ⟨_, rfl, fun _ x => x⟩, trivial⟩
      clear I11
      generalize hgx : gs.getD k 0 = gx at I12
      generalize hwx : ws.getD k 0 = wx at I12
      have eg : gs.take (k + 1) = gs.take k ++ [gx] := by rw [List.take_add_one, ← hgx]; simp [hkg]
      have ew : ws.take (k + 1) = ws.take k ++ [wx] := by rw [List.take_add_one, ← hwx]; simp [hkw]
      obtain ⟨j, hj16, hje⟩ := slot16 wx turn
      refine wpAny_execs_cons ?_; refine exprS (by assumption) ?_; refine methodCall_KW ?_; refine Subscript_ ?_; refine ldV (by assumption) (by assumption) (by rfl) ?_; refine wpAny_BinOp ?_; refine wpAny_BinOp ?_; refine ldI (by assumption) (by assumption) (by rfl) (fun _ => ?_); refine ldI (by assumption) (by assumption) (by rfl) (fun _ => ?_); refine oSub (by assumption) (fun _ _ _ => ?_); refine cI (by assumption) (fun _ _ _ => ?_); refine oMod (by assumption) (by decide) (fun _ _ _ => ?_)
      rename St _ _ _ _ _ _ _ => I13
      rw [hje]
      have hjc : j < cas.length := by omega
      have hjs : j < (cssOf (gs.take k) (ws.take k) turn).length := by rw [cssOf_length]; exact hj16
      refine subscrV I13 (i := 2) rfl (by omega) (a := cas[j]) (by rw [show ((j : Int)).toNat = j from rfl, List.getElem?_map, List.getElem?_eq_getElem hjc]; rfl) ?_
      have hget : ([(lg, isLI gs), (lw, isLI ws)] ++ ([(cl, isL (cas.map vref))] ++ fam cas (cssOf (gs.take k) (ws.take k) turn)))[j + 3]? = some (cas[j], isLI (cssOf (gs.take k) (ws.take k) turn)[j]) := fam_get hjc hjs
      refine meth_of_on (appM I13 (i := j + 3) hget ?_)
      refine ldI (by assumption) (by assumption) (by rfl) (fun _ => ?_)
      have hlen : (cssOf (gs.take k) (ws.take k) turn)[j].length ≤ 1000 := by
        rw [cssOf_get hj16]
        unfold callsOf
        rw [List.length_map]
        refine Nat.le_trans (List.length_filter_le ..) ?_
        simp; omega
      refine appLI I13 (i := j + 3) hget ?_ hlen
      intro s14 I14
      refine wpAny_execs_nil (hQ1 _ _ ⟨.inl rfl, _, _, ⟨rfl, rfl⟩, ?_⟩)
      rw [eg, ew, cssOf_snoc (by simp; omega) turn gx wx hj16 hje]
      have e2 : ([(lg, isLI gs), (lw, isLI ws)] ++ ([(cl, isL (cas.map vref))] ++ fam cas (cssOf (gs.take k) (ws.take k) turn))).set (j + 3) (cas[j], isLI ((cssOf (gs.take k) (ws.take k) turn)[j] ++ [gx])) =
          [(lg, isLI gs), (lw, isLI ws)] ++ ([(cl, isL (cas.map vref))] ++ fam cas ((cssOf (gs.take k) (ws.take k) turn).set j (callsOf (gs.take k) (ws.take k) turn j ++ [gx]))) := by
        rw [← fam_set hjc hjs, cssOf_get hj16]; rfl
      rw [e2] at I14
      exact I14.loc ⟨⟨_, rfl, fun _ x => x⟩, ⟨_, rfl, fun _ x => x⟩, ⟨_, rfl, fun _ x => x⟩, ⟨_, rfl, fun _ x => x⟩, ⟨_, rfl, fun _ x => x⟩, trivial⟩
    case fin2 =>
      rintro m2 objs2 s11 ⟨rfl, rfl⟩ I11
      rw [show gs.take (gs.map isI).length = gs by simp, show ws.take (gs.map isI).length = ws by rw [List.length_map, hlg, ← hlw]; simp] at I11
      clear I9 I10
      refine wpAny_execs_cons ?_
      obtain ⟨g3, I12, hg3, back3⟩ := (I11.perm (objs' := ([(cl, isL (cas.map vref))] ++ fam cas (cssOf gs ws turn)) ++ [(lg, isLI gs), (lw, isLI ws)]) (List.perm_append_comm ..)).out
      clear I11
      have hW3 := hW'.keeps hg3
      refine Assign_Tuple_swapped (names := ["heap", "waits", "over"]) ?_ rfl ((swapped_eq HE).trans rfl)
      refine PyProof.Rows.Tuple_ ?_; refine PyProof.Rows.args_cons ?_; refine PyProof.Rows.List_ ?_; refine PyProof.Rows.args_cons ?_; refine ldI (by assumption) (by assumption) (by rfl) (fun _ => ?_); refine PyProof.Rows.args_nil ?_
      refine newL (ps := [isI head]) I12 (.one ⟨_, rfl⟩) ?_
      intro hp s13 I13
      refine PyProof.Rows.args_cons ?_; refine PyProof.Rows.List_ ?_; refine PyProof.Rows.args_nil ?_
      refine newL (ps := []) I13 .nil ?_
      intro wa s14 I14
      refine PyProof.Rows.args_cons ?_
      refine newDct (prog := prog) (w := w) I14 ?_
      intro ov s15 I15
      refine PyProof.Rows.args_nil ?_
      refine newT (ps := [vref hp, vref wa, vref ov]) I15 (.cons rfl (.cons rfl (.one rfl))) ?_
      intro T s16 I16
      have I17 : St g3 G O L' _ ([(cl, isL (cas.map vref)), (hp, isLI [head]), (wa, isL []), (ov, isD prog w []), (T, isT [vref hp, vref wa, vref ov])] ++ fam cas (cssOf gs ws turn)) s16 := I16.perm (by
        simp only [List.append_assoc]
        refine List.Perm.cons _ ?_
        exact List.perm_append_comm (l₁ := [(hp, isLI [head]), (wa, isL []), (ov, isD prog w []), (T, isT [vref hp, vref wa, vref ov])]) (l₂ := fam cas (cssOf gs ws turn)))
      clear I12 I13 I14 I15 I16
      refine unpackSw3 (by exact hh) HE I17 (i := 4) rfl ?_
      intro s18 I18
      have I19 : St g3 G O L' [nm "heap" (vref hp), nm "waits" (vref wa), nm "over" (vref ov), nm "calls" (vref cl)] ([(cl, isL (cas.map vref)), (hp, isLI [head]), (wa, isL (([] : List Addr).map vref)), (ov, isD prog w (([] : List (Int × Int)).map fun p => (p.1, isI p.2)))] ++ (fam cas (cssOf gs ws turn) ++ fam [] [])) s18 := by
        refine (I18.loc (m' := [nm "heap" (vref hp), nm "waits" (vref wa), nm "over" (vref ov), nm "calls" (vref cl)]) ⟨⟨_, rfl, fun _ x => x⟩, ⟨_, rfl, fun _ x => x⟩, ⟨_, rfl, fun _ x => x⟩, ⟨_, rfl, fun _ x => x⟩, trivial⟩).subO ?_
        rw [show fam [] [] = [] from rfl, List.append_nil]
        exact .cons_cons _ (.cons_cons _ (.cons_cons _ (.cons_cons _ (.cons _ (.refl _)))))
      clear I17 I18
      have hcat := catC_perm (hlg.trans hlw.symm) turn
      generalize hC : callsOf gs ws turn = C at *
      have hcss : ∀ t (h : t < (cssOf gs ws turn).length), t < 16 → (cssOf gs ws turn)[t] = C t := fun t h h' => by rw [cssOf_get h', hC]
      have hcl : (cssOf gs ws turn).length = 16 := cssOf_length ..
      generalize cssOf gs ws turn = css at *
      have hcat15 : (catC C 16).length = 15 := by rw [hcat.length_eq, hlg]
      have hcatnd : (catC C 16).Nodup := hcat.nodup_iff.mpr hnd
      have hsrt1 : srt [head] = [head] := by simp [srt]
      refine wpAny_execs_cons ?_
      refine wpAny_While ?_
      refine codeAny_mono (R := fun r s20 => r = .ok .next ∧ ∃ was : List Addr, was.length = (runW C 17 0 [head]).length ∧
        St g3 G O L' [nm "heap" (vref hp), nm "waits" (vref wa), nm "over" (vref ov), nm "calls" (vref cl)] ([(cl, isL (cas.map vref)), (hp, isLI []), (wa, isL (was.map vref)), (ov, isD prog w ((runO C 17 0 [head]).map fun p => (p.1, isI p.2)))] ++ (fam cas css ++ fam was (runW C 17 0 [head]))) s20) ?loop ?aft
      case aft =>
        rintro rr s20 ⟨rfl, was, hwl, I20⟩
        refine wpAny_execs_cons ?_; refine wpAny_Return_some ?_; refine PyProof.Rows.Tuple_ ?_; refine PyProof.Rows.args_cons ?_; refine ldV (by assumption) (by assumption) (by rfl) ?_; refine PyProof.Rows.args_cons ?_; refine ldV (by assumption) (by assumption) (by rfl) ?_; refine PyProof.Rows.args_nil ?_
        refine newT (ps := [vref wa, vref ov]) I20 (.cons rfl (.one rfl)) ?_
        intro T2 s21 I21
        have I22 := back3 _ _ _ I21
        have I23 : St g' G O L' [nm "heap" (vref hp), nm "waits" (vref wa), nm "over" (vref ov), nm "calls" (vref cl)] ([(lg, isLI gs), (lw, isLI ws)] ++ ([(T2, isT [vref wa, vref ov]), (wa, isL (was.map vref)), (ov, isD prog w ((runO C 17 0 [head]).map fun p => (p.1, isI p.2)))] ++ fam was (runW C 17 0 [head]))) s21 := by
          refine (I22.subO (objs' := (([(wa, isL (was.map vref)), (ov, isD prog w ((runO C 17 0 [head]).map fun p => (p.1, isI p.2)))] ++ fam was (runW C 17 0 [head])) ++ [(T2, isT [vref wa, vref ov])]) ++ [(lg, isLI gs), (lw, isLI ws)]) ?_).perm ?_
          · refine List.Sublist.append_right (List.Sublist.append_right ?_ _) _
            refine .cons _ (.cons _ (.cons_cons _ (.cons_cons _ ?_)))
            exact List.sublist_append_right ..
          · refine (List.perm_append_comm (l₁ := [(lg, isLI gs), (lw, isLI ws)])).trans (List.Perm.append_right _ ?_)
            exact List.perm_append_comm (l₁ := [(T2, isT [vref wa, vref ov])])
        refine hQ0 _ _ ⟨_, _, I23, fun J => ?_⟩
        have J2 := back _ _ _ _ _ J
        rw [set_self hi, set_self hj] at J2
        exact h T2 wa ov was _ hwl J2
      refine whileQ (I := fun k s => ∃ (t : Nat) (hs : List Int) (was : List Addr) (wss : List (List Int)) (ovs : List (Int × Int)), k = 17 - t ∧ t ≤ 16 ∧ was.length = t ∧ wss.length = t ∧ IsH hs ∧ hs.length + t = 1 + (catC C t).length ∧
        wss ++ runW C (17 - t) t (srt hs) = runW C 17 0 [head] ∧ ovs ++ runO C (17 - t) t (srt hs) = runO C 17 0 [head] ∧ ovs.map (·.1) = catC C t ∧
        St g3 G O L' [nm "heap" (vref hp), nm "waits" (vref wa), nm "over" (vref ov), nm "calls" (vref cl)] ([(cl, isL (cas.map vref)), (hp, isLI hs), (wa, isL (was.map vref)), (ov, isD prog w (ovs.map fun p => (p.1, isI p.2)))] ++ (fam cas css ++ fam was wss)) s) ?_ 17
        ⟨0, [head], [], [], [], rfl, by omega, rfl, rfl, (fun i hi hl => by simp at hl; omega), rfl, by rw [hsrt1]; rfl, by rw [hsrt1]; rfl, rfl, I19⟩
      intro k s20 hI E1 B hB hBb hBr T1 hT hF
      obtain ⟨t, hs, was, wss, ovs, hk, ht, hwa, hws, hH, hlen, hW1, hO1, hkeys, I20⟩ := hI
      have hcatle : (catC C t).length ≤ 15 := by rw [← hcat15]; exact catC_length_le ht
      refine wpAny_isTrue_Compare1 ?_; refine ldV (by assumption) (by assumption) (by rfl) ?_; refine PyProof.Rows.List_ ?_; refine PyProof.Rows.args_nil ?_
      refine newL (ps := []) I20 .nil ?_
      intro tmp s21 I21
      refine tNeLI (ns := hs) (ms := []) I21 (i := 1) rfl last_get (by show (A.units + 3) + 64 < cLine; rw [cLine_is]; omega) ?_ ?_
      · intro hne
        have I22 := I21.cut rfl
        clear I21 I20
        have hpos : 0 < hs.length := List.length_pos_iff.mpr hne
        have ht16 : t < 16 := by omega
        obtain ⟨x, r, hxr⟩ : ∃ x r, srt hs = x :: r := by
          cases hq : srt hs with
          | nil => have := srt_length hs; rw [hq] at this; simp at this; omega
          | cons x r => exact ⟨x, r, rfl⟩
        refine hT _ ?_; refine wpAny_execs_cons ?_; refine wpAny_Assign_Name ?_; refine wpAny_Call_NameR ?_; refine ldB (by assumption) (by assumption) (by assumption) (g_sorted _) b_sorted ?_; refine PyProof.Rows.callWith_builtin1 ?_; refine PyProof.Rows.args_cons ?_; refine ldV (by assumption) (by assumption) (by rfl) ?_; refine PyProof.Rows.args_nil ?_
        refine srtL I22 (i := 1) rfl (by omega) ?_
        intro sa s23 I23
        refine sto (P := isV _) (by assumption) (by assumption) rfl (fun _ _ => ?_); refine wpAny_execs_cons ?_
        rename St _ _ _ _ _ _ _ => I24
        clear I22 I23
        rw [hxr] at I24
        refine wpAny_mono (Q := fun fl s5 => fl = .next ∧ ∃ us, IsH us ∧ (x :: us).Perm hs ∧ St g3 G O L' [nm "waiting" (vref sa), nm "heap" (vref hp), nm "waits" (vref wa), nm "over" (vref ov), nm "calls" (vref cl)]
          (([(cl, isL (cas.map vref)), (hp, isLI us), (wa, isL (was.map vref)), (ov, isD prog w (ovs.map fun p => (p.1, isI p.2)))] ++ (fam cas css ++ fam was wss)) ++ [(sa, isLI (x :: r))]) s5) ?ifA ?ifB fun _ _ x => x
        case ifA =>
          refine wpAny_If ?_
          refine wpAny_isTrue_Compare1 ?_; refine wpAny_Call_NameR ?_; refine ldG (by assumption) (by assumption) (by assumption) (g_heappop _) ?_; refine callWith_K (W.k (by assumption)) (by with_unfolding_all rfl) ?_; refine PyProof.Rows.args_cons ?_; refine ldV (by assumption) (by assumption) (by rfl) ?_; refine PyProof.Rows.args_nil ?_; refine ⟨St.inK (by assumption) (by assumption), ?_⟩
          refine heappop_heap I24 hW3 (by simp only [Around.deeper]; omega) (i := 1) rfl (by omega) hH hxr ?_
          intro t2 us s25 hHu hperm I25
          refine Subscript_ ?_; refine ldV (by assumption) (by assumption) (by rfl) ?_; refine cI (by assumption) (fun _ _ _ => ?_)
          rename St _ _ _ _ _ _ _ => I26
          refine subscrI I26 (i := ([(cl, isL (cas.map vref)), (hp, isLI us), (wa, isL (was.map vref)), (ov, isD prog w (ovs.map fun p => (p.1, isI p.2)))] ++ (fam cas css ++ fam was wss)).length) last_get (by omega) (isLI_get (p := 0) (by simp)) (fun t3 => ?_)
          refine tNe (fun q => absurd rfl q) (fun _ => ?_)
          refine ifF ?_
          exact wpAny_execs_nil ⟨rfl, us, hHu, hperm, I26⟩
        case ifB =>
          rintro fl s25 ⟨rfl, us, hHu, hperm, I25⟩
          clear I24
          refine wpAny_execs_cons ?_
          refine wpAny_For ?_
          refine Subscript_ ?_; refine ldV (by assumption) (by assumption) (by rfl) ?_; refine wpAny_Call_NameR ?_; refine ldB (by assumption) (by assumption) (by assumption) (g_len _) b_len ?_; refine PyProof.Rows.callWith_builtin1 ?_; refine PyProof.Rows.args_cons ?_; refine ldV (by assumption) (by assumption) (by rfl) ?_; refine PyProof.Rows.args_nil ?_
          refine lenL I25 (i := 2) rfl ?_ (by simp; omega)
          intro t26 s26 I26
          have htc : t < cas.length := by omega
          have hts : t < css.length := by omega
          rw [show (((was.map vref).length : Nat) : Int) = (t : Nat) by simp [hwa]]
          refine subscrV I26 (i := 0) rfl (by omega) (a := cas[t]) (by rw [show ((t : Int)).toNat = t from rfl, List.getElem?_map, List.getElem?_eq_getElem htc]; rfl) ?_
          have hfl : (fam cas css).length = 16 := by rw [fam_length (by omega)]; exact hc
          have hget : ∀ (a b c d : Addr × OP) (rest : List (Addr × OP)), (([a, b, c, d] ++ (fam cas css ++ rest)))[t + 4]? = some (cas[t], isLI (C t)) := by
            intro a b c d rest
            show (fam cas css ++ rest)[t]? = _
            rw [List.getElem?_append_left (by omega), fam_get htc hts, hcss t hts ht16]
          have hget2 : ∀ (a b c d : Addr × OP) (rest : List (Addr × OP)) (z : Addr × OP), (([a, b, c, d] ++ (fam cas css ++ rest)) ++ [z])[t + 4]? = some (cas[t], isLI (C t)) := by
            intro a b c d rest z
            rw [List.append_assoc, List.append_assoc]
            exact hget a b c d (rest ++ [z])
          refine iterL I26 (i := t + 4) (hget2 ..) ?_
          intro it3 s27 I27
          have hCt : (catC C (t + 1)).length ≤ 15 := by rw [← hcat15]; exact catC_length_le ht16
          have hCt' : (catC C t).length + (C t).length ≤ 15 := by rw [catC, List.length_append] at hCt; exact hCt
          have hndt : (catC C (t + 1)).Nodup := by
            obtain ⟨rr, hr⟩ := catC_mono (C := C) (t := t + 1) (n := 16) ht16
            rw [hr] at hcatnd
            exact (List.nodup_append.mp hcatnd).1
          refine forI (It.list (by exact hh) it3 cas[t] ((C t).map isI)) HE (fun k m' objs' => m' = [nm "waiting" (vref sa), nm "heap" (vref hp), nm "waits" (vref wa), nm "over" (vref ov), nm "calls" (vref cl)] ∧
            ∃ vs, IsH vs ∧ vs.Perm (us ++ (C t).take k) ∧ objs' = ([(cl, isL (cas.map vref)), (hp, isLI vs), (wa, isL (was.map vref)), (ov, isD prog w ((ovs ++ ((C t).take k).map fun g => (g, x)).map fun p => (p.1, isI p.2)))] ++ (fam cas css ++ fam was wss)) ++ [(sa, isLI (x :: r))])
            ⟨rfl, us, hHu, by simp, by simp⟩ (fun k m' objs' h p hp => by
              obtain ⟨_, vs, _, _, rfl⟩ := h
              rw [List.mem_singleton.mp hp]
              exact List.mem_of_getElem? (hget2 ..)) I27 ?turn3 ?fin3
          case turn3 =>
            intro k g4 m4 objs4 s28 hg4 hk hI I28 E4
            refine post_gen fun Q1 hQ1 => ?_
            obtain ⟨rfl, vs, hHv, hpv, rfl⟩ := hI
            have hk' : k < (C t).length := by simpa using hk
            have hW4 := hW3.keeps hg4
            have I29 := I28.loc (m' := [nm "guest" (isI ((C t).getD k 0)), nm "waiting" (vref sa), nm "heap" (vref hp), nm "waits" (vref wa), nm "over" (vref ov), nm "calls" (vref cl)]) ⟨⟨_, rfl, fun v hv => hv _ (isLI_get hk')⟩, ⟨_, rfl, fun _ x => x⟩, ⟨_, rfl, fun _ x => x⟩, ⟨_, rfl, fun _ x => x⟩, ⟨_, rfl, fun _ x => x⟩, ⟨_, rfl, fun _ x => x⟩, trivial⟩
            clear I28
            generalize hy : (C t).getD k 0 = y at I29
            have etk : (C t).take (k + 1) = (C t).take k ++ [y] := by rw [List.take_add_one, ← hy]; simp [hk']
            have hvl : vs.length ≤ 40 := by
              rw [hpv.length_eq, List.length_append, List.length_take]
              have := hperm.length_eq
              simp at this
              omega
            refine wpAny_execs_cons ?_; refine exprS (by assumption) ?_; refine wpAny_Call_NameR ?_; refine ldG (by assumption) (by assumption) (by assumption) (g_heappush _) ?_; refine callWith_K (W.k (by assumption)) (by with_unfolding_all rfl) ?_; refine PyProof.Rows.args_cons ?_; refine ldV (by assumption) (by assumption) (by rfl) ?_; refine PyProof.Rows.args_cons ?_; refine ldI (by assumption) (by assumption) (by rfl) (fun _ => ?_); refine PyProof.Rows.args_nil ?_; refine ⟨St.inK (by assumption) (by assumption), ?_⟩
            refine heappush_heap I29 hW4 (by simp only [Around.deeper]; omega) (i := 1) rfl (by omega) hHv ?_
            intro vs' s30 hHv' hpv' I30
            refine wpAny_execs_cons ?_; refine wpAny_Assign_Subscript ?_; refine Subscript_ ?_; refine ldV (by assumption) (by assumption) (by rfl) ?_; refine cI (by assumption) (fun _ _ _ => ?_)
            rename St _ _ _ _ _ _ _ => I31
            refine subscrI I31 (i := ([(cl, isL (cas.map vref)), (hp, isLI vs'), (wa, isL (was.map vref)), (ov, isD prog w ((ovs ++ ((C t).take k).map fun g => (g, x)).map fun p => (p.1, isI p.2)))] ++ (fam cas css ++ fam was wss)).length) last_get (by omega) (isLI_get (p := 0) (by simp)) (fun t3 => ?_)
            refine ldV (by assumption) (by assumption) (by rfl) ?_; refine ldI (by assumption) (by assumption) (by rfl) (fun _ => ?_)
            have hkeys2 : ((ovs ++ ((C t).take k).map fun g => (g, x)).map fun p => (p.1, isI p.2)).map (·.1) = catC C t ++ (C t).take k := by
              rw [List.map_map, List.map_append, List.map_map]
              show ovs.map (·.1) ++ ((C t).take k).map (fun g => g) = _
              rw [hkeys, List.map_id']
            have hynew : y ∉ catC C t ++ (C t).take k := by
              have e1 : catC C t ++ (C t).take (k + 1) ++ (C t).drop (k + 1) = catC C (t + 1) := by rw [List.append_assoc, List.take_append_drop]; rfl
              rw [← e1, etk, ← List.append_assoc] at hndt
              have n1 := (List.nodup_append.mp (List.nodup_append.mp hndt).1).2.2
              intro q
              exact n1 y q y (by simp) rfl
            refine setD I31 (i := 3) rfl (by rw [hkeys2]; exact hynew) (P := isI x) ⟨t3, rfl⟩ ?_ (by simp; have := congrArg List.length hkeys; simp at this; omega)
            intro s32 I32
            refine wpAny_execs_nil (hQ1 _ _ ⟨.inl rfl, _, _, ⟨rfl, vs', hHv', ?_, ?_⟩, I32.loc ⟨⟨_, rfl, fun _ x => x⟩, ⟨_, rfl, fun _ x => x⟩, ⟨_, rfl, fun _ x => x⟩, ⟨_, rfl, fun _ x => x⟩, ⟨_, rfl, fun _ x => x⟩, trivial⟩⟩)
            · rw [etk, ← List.append_assoc]
              refine hpv'.trans ((hpv.cons y).trans ?_)
              exact List.perm_append_comm (l₁ := [y])
            · rw [etk]
              simp
          case fin3 =>
            rintro m4 objs4 s28 ⟨rfl, vs, hHv, hpv, rfl⟩ I28
            rw [show (C t).take ((C t).map isI).length = C t by simp] at hpv I28
            clear I25 I26 I27
            refine wpAny_execs_cons ?_; refine exprS (by assumption) ?_; refine methodCall_KW ?_; refine ldV (by assumption) (by assumption) (by rfl) ?_
            refine meth_of_on (appM I28 (i := 2) rfl ?_)
            refine ldV (by assumption) (by assumption) (by rfl) ?_
            refine appL I28 (i := 2) rfl (P := vref sa) rfl ?_ (by simp; omega)
            intro s29 I29
            refine wpAny_execs_nil (hB _ _ (.inl rfl) ?_)
            have hpu := hperm.length_eq
            simp at hpu
            have hpr : r.Perm us := by
              have p1 := (srt_perm hs)
              rw [hxr] at p1
              exact List.Perm.cons_inv (p1.trans hperm.symm)
            refine ⟨17 - (t + 1), by omega, t + 1, vs, was ++ [sa], wss ++ [x :: r], ovs ++ (C t).map (fun g => (g, x)), rfl, by omega, by simp [hwa], by simp [hws], hHv, ?_, ?_, ?_, ?_, ?_⟩
            · rw [hpv.length_eq, catC]; simp; omega
            · rw [← hW1, hxr, show 17 - t = (17 - (t + 1)) + 1 by omega, runW_cons, List.append_assoc, srt_congr (hpv.trans (hpr.symm.append_right _))]
              rfl
            · rw [← hO1, hxr, show 17 - t = (17 - (t + 1)) + 1 by omega, runO_cons, List.append_assoc, srt_congr (hpv.trans (hpr.symm.append_right _))]
            · rw [catC, List.map_append, hkeys, List.map_map]
              congr 1
              exact List.map_id' _
            · have e5 : fam (was ++ [sa]) (wss ++ [x :: r]) = fam was wss ++ [(sa, isLI (x :: r))] := by rw [fam_append (by omega)]; rfl
              rw [e5]
              have I30 := I29.loc (m' := [nm "heap" (vref hp), nm "waits" (vref wa), nm "over" (vref ov), nm "calls" (vref cl)]) ⟨⟨_, rfl, fun _ x => x⟩, ⟨_, rfl, fun _ x => x⟩, ⟨_, rfl, fun _ x => x⟩, ⟨_, rfl, fun _ x => x⟩, trivial⟩
              refine I30.cast ?_
              have e6 : (was ++ [sa]).map vref = was.map vref ++ [vref sa] := by simp
              rw [e6, List.append_assoc, List.append_assoc]
              rfl
      · intro he
        subst he
        have I22 := I21.cut rfl
        refine hF _ ?_
        have e0 : srt [] = [] := by simp [srt]
        rw [e0, runW_nil, List.append_nil] at hW1
        rw [e0, runO_nil, List.append_nil] at hO1
        refine wpAny_execs_nil ⟨rfl, was, by rw [← hW1]; omega, ?_⟩
        rw [← hW1, ← hO1]
        exact I22
end
end Mine
end
-- MG
section
open PySem PySem.W PyProof.Rows
set_option maxRecDepth 100000
set_option maxHeartbeats 4000000
namespace Mine

theorem set_selfG {α : Type _} {l : List α} {i : Nat} {x : α} (h : l[i]? = some x) : l.set i x = l := by
  apply List.ext_getElem?
  intro j
  rw [List.getElem?_set]
  split
  · rename_i e; subst e; rw [if_pos (List.getElem?_eq_some_iff.mp h).1, h]
  · rfl
structure NI where
  key : Int
  na : Addr
  da : Addr
  sa : Addr
  np : Int
  succ : List Int
noncomputable def NI.recO (n : NI) : Addr × OP := (n.na, isNR [some (isI n.key), some (isI n.np), some (vref n.sa)] n.da)
noncomputable def NI.all (n : NI) : List (Addr × OP) := [n.recO, (n.da, isO emptyDict), (n.sa, isLI n.succ)]
noncomputable def gr : List NI → List (Addr × OP)
  | [] => []
  | n :: r => n.recO :: (n.da, isO emptyDict) :: (n.sa, isLI n.succ) :: gr r
theorem gr_append : ∀ (a b : List NI), gr (a ++ b) = gr a ++ gr b
  | [], b => rfl
  | n :: r, b => by show _ :: _ :: _ :: gr (r ++ b) = _; rw [gr_append r b]; rfl
theorem gr_rec : ∀ {ns : List NI} {i : Nat} {n : NI}, ns[i]? = some n → (gr ns)[3 * i]? = some n.recO
  | n :: r, 0, m, h => by cases h; rfl
  | n :: r, i + 1, m, h => by rw [show 3 * (i + 1) = 3 * i + 1 + 1 + 1 by omega]; exact gr_rec (ns := r) (by simpa using h)
theorem gr_emp : ∀ {ns : List NI} {i : Nat} {n : NI}, ns[i]? = some n → (gr ns)[3 * i + 1]? = some (n.da, isO emptyDict)
  | n :: r, 0, m, h => by cases h; rfl
  | n :: r, i + 1, m, h => by rw [show 3 * (i + 1) + 1 = (3 * i + 1) + 1 + 1 + 1 by omega]; exact gr_emp (ns := r) (by simpa using h)
theorem gr_suc : ∀ {ns : List NI} {i : Nat} {n : NI}, ns[i]? = some n → (gr ns)[3 * i + 2]? = some (n.sa, isLI n.succ)
  | n :: r, 0, m, h => by cases h; rfl
  | n :: r, i + 1, m, h => by rw [show 3 * (i + 1) + 2 = (3 * i + 2) + 1 + 1 + 1 by omega]; exact gr_suc (ns := r) (by simpa using h)
theorem gr_setRec : ∀ {ns : List NI} {i : Nat} {n : NI} (np : Int), ns[i]? = some n → (gr ns).set (3 * i) ({ n with np := np } : NI).recO = gr (ns.set i { n with np := np })
  | n :: r, 0, m, np, h => by cases h; rfl
  | n :: r, i + 1, m, np, h => by
    rw [show 3 * (i + 1) = 3 * i + 1 + 1 + 1 by omega]
    show _ :: _ :: _ :: (gr r).set (3 * i) _ = _ :: _ :: _ :: gr (r.set i _)
    rw [gr_setRec (ns := r) np (by simpa using h)]
theorem gr_setSuc : ∀ {ns : List NI} {i : Nat} {n : NI} (l : List Int), ns[i]? = some n → (gr ns).set (3 * i + 2) (n.sa, isLI l) = gr (ns.set i { n with succ := l })
  | n :: r, 0, m, l, h => by cases h; rfl
  | n :: r, i + 1, m, l, h => by
    rw [show 3 * (i + 1) + 2 = (3 * i + 2) + 1 + 1 + 1 by omega]
    show _ :: _ :: _ :: (gr r).set (3 * i + 2) _ = _ :: _ :: _ :: gr (r.set i _)
    rw [gr_setSuc (ns := r) l (by simpa using h)]
noncomputable def nodeD (ns : List NI) : List (Int × VP) := ns.map fun n => (n.key, vref n.na)
noncomputable def keysN (ns : List NI) : List Int := ns.map (·.key)
theorem nodeD_keys (ns : List NI) : (nodeD ns).map (·.1) = keysN ns := by unfold nodeD keysN; rw [List.map_map]; rfl
theorem nodeD_set {ns : List NI} {i : Nat} {n n' : NI} (h : ns[i]? = some n) (h1 : n'.key = n.key) (h2 : n'.na = n.na) : nodeD (ns.set i n') = nodeD ns := by
  unfold nodeD
  rw [List.map_set, h1, h2]
  exact set_selfG (l := ns.map fun n => (n.key, vref n.na)) (i := i) (x := (n.key, vref n.na)) (by rw [List.getElem?_map, h]; rfl)
theorem keysN_set {ns : List NI} {i : Nat} {n n' : NI} (h : ns[i]? = some n) (h1 : n'.key = n.key) : keysN (ns.set i n') = keysN ns := by
  unfold keysN
  rw [List.map_set, h1]
  exact set_selfG (l := ns.map (·.key)) (i := i) (x := n.key) (by rw [List.getElem?_map, h]; rfl)
/-- the sorter with its nodes -/
noncomputable def tsO (prog : Program) (w : World) (x dx nd : Addr) (as : List (Str × VP)) (ns : List NI) : List (Addr × OP) := (x, isO (instObj 260 dx)) :: (dx, isA as) :: (nd, isD prog w (nodeD ns)) :: gr ns

/-- a node found or laid anew -/
noncomputable def Ins (ns : List NI) (k : Int) (ns' : List NI) (n : NI) : Prop := n ∈ ns' ∧ n.key = k ∧ ((k ∈ keysN ns ∧ ns' = ns) ∨ (k ∉ keysN ns ∧ ns' = ns ++ [n] ∧ n.np = 0 ∧ n.succ = []))

section
variable {prog : Program} {w : World} {A : Around} {E : Value → Shared → Prop} {s : Shared}
variable {g : Heap} {G : Array GenState} {O : OsState} {L : Addr} {m : List (Str × VP)} {objs : List (Addr × OP)}
theorem asgSub {M : Model} {env : Env} {o i : Expr} {pos : Pos} {v : Value} {Q : Unit → Shared → Prop}
    (h : wpAny M A (eval o env) (fun ov s₁ => wpAny M A (eval i env) (fun iv s₂ => wpAny M A (setItem ov iv v) (fun _ s₃ => Q () s₃) E s₂) E s₁) E s) : wpAny M A (assign (.Subscript o i pos) env v) Q E s := by
  rw [arm_assign_Subscript]
  refine wpAny_bind (wpAny_holding (wpAny_mono h (fun ov s₁ h₁ => wpAny_bind (wpAny_holding (wpAny_mono h₁ (fun iv s₂ h₂ => ?_) fun _ _ x => x))) fun _ _ x => x))
  exact wpAny_bind (wpAny_standAt (wpAny_bind (wpAny_holding (wpAny_mono h₂ (fun _ s₃ h₃ => wpAny_release h₃) fun _ _ x => x))))
theorem g_NODE_OUT (w : World) : ∃ t, nsIn (KF w) mainGlobals "_NODE_OUT" = some (some (.int (-1) t)) := ⟨_, by rfl⟩
theorem g_NODE_DONE (w : World) : ∃ t, nsIn (KF w) mainGlobals "_NODE_DONE" = some (some (.int (-2) t)) := ⟨_, by rfl⟩

theorem nodeNew {k : Int} {t : Tok} {Q : Value → Shared → Prop} (I : St g G O L m objs s) (hW : W w g) (hroom : A.depth < 900)
    (h : ∀ n s', n.key = k → n.np = 0 → n.succ = [] → St g G O L m (objs ++ gr [n]) s' → Q (.ref n.na) s') :
    wpAny (model prog w) A (call (.ref 163) [.int k t]) Q E s := by
  refine makeI I hW (by rfl) (fI := 159) (by rfl) (by rfl) ?_
  intro na da s1 I1 E1
  obtain ⟨g1, I2, hg1, back⟩ := (I1.perm (objs' := [(da, isO emptyDict), (na, isO (instObj 163 da))] ++ objs) (List.perm_append_comm ..)).out
  clear I1
  have I3 : St g1 G O L m [(da, isO emptyDict), (na, isNR [] da)] s1 := I2.weakO (by exact List.Sublist.refl _) (fun p hp => by
    simp only [List.mem_cons, List.not_mem_nil, or_false] at hp
    rcases hp with rfl | rfl
    · exact ⟨(da, isO emptyDict), .head _, rfl, fun _ x => x⟩
    · exact ⟨(na, isO (instObj 163 da)), .tail _ (.head _), rfl, fun o e => ⟨[], by rw [show o = _ from e], rfl, fun i P h => by simp at h⟩⟩)
  clear I2
  have hW1 := hW.keeps hg1
  refine code_fnV hW1 I3 (show A.depth + 1 < recursionLimit by unfold recursionLimit; omega) rfl rfl rfl rfl rfl ?_
  refine BindsTo.of_eq (binds := [("self", .ref na), ("node", .int k t)]) rfl _ _ _ _ ?_
  refine ⟨_, I3, rfl, ?_⟩
  intro g' L' s' env HE hW' I' E'
  refine post_gen fun Q0 hQ0 => ?_
  dsimp only at HE
  have I4 := I'.loc (m' := [("self", vref na), ("node", isI k)]) ⟨⟨_, rfl, fun _ x => x⟩, ⟨_, rfl, fun _ x => ⟨_, x⟩⟩, trivial⟩
  clear I'
  refine wpAny_execs_cons ?_; refine plainObj_wpAny_Assign_Attribute ?_; refine ldI (by assumption) (by assumption) (by rfl) (fun _ => ?_); refine ldV (by assumption) (by assumption) (by rfl) ?_
  refine slotSet I4 hW' (i := 1) (j := 0) rfl rfl (p := 164) (k := 0) (by rfl) (by rfl) (by rfl) (by decide) (P := isI k) ⟨_, rfl⟩ ?_
  intro s5 I5
  refine wpAny_execs_cons ?_; refine plainObj_wpAny_Assign_Attribute ?_; refine cI (by assumption) (fun _ _ _ => ?_); refine ldV (by assumption) (by assumption) (by rfl) ?_
  rename St _ _ _ _ _ _ _ => I6
  refine slotSet I6 hW' (i := 1) (j := 0) rfl rfl (p := 165) (k := 1) (by rfl) (by rfl) (by rfl) (by decide) (P := isI 0) ⟨_, rfl⟩ ?_
  intro s7 I7
  refine wpAny_execs_cons ?_; refine plainObj_wpAny_Assign_Attribute ?_; refine PyProof.Rows.List_ ?_; refine PyProof.Rows.args_nil ?_
  refine newL (ps := []) I7 .nil ?_
  intro sa s8 I8
  refine ldV (by assumption) (by assumption) (by rfl) ?_
  refine slotSet I8 hW' (i := 1) (j := 0) rfl rfl (p := 166) (k := 2) (by rfl) (by rfl) (by rfl) (by decide) (P := vref sa) rfl ?_
  intro s9 I9
  refine wpAny_execs_nil (hQ0 _ _ ⟨_, _, I9, fun J => ⟨rfl, ?_⟩⟩)
  have J2 := back _ _ _ J
  refine h ⟨k, na, da, sa, 0, []⟩ _ rfl rfl rfl ?_
  refine J2.perm ?_
  refine (List.perm_append_comm).trans (List.Perm.append_right _ ?_)
  exact List.Perm.swap _ _ _
end
end Mine
end
-- MG2
section
open PySem PySem.W PyProof.Rows
set_option maxRecDepth 100000
set_option maxHeartbeats 4000000
namespace Mine

section
variable {prog : Program} {w : World} {A : Around} {E : Value → Shared → Prop} {s : Shared}
variable {g : Heap} {G : Array GenState} {O : OsState} {L : Addr} {m : List (Str × VP)} {objs : List (Addr × OP)}

theorem handed_ref {a : Addr} : ∀ v, vref a v → handedIn v = true := by rintro _ rfl; rfl
theorem handed_int {k : Int} : ∀ v, isI k v → handedIn v = true := by rintro _ ⟨t, rfl⟩; rfl

theorem get_node {k : Int} {t : Tok} {x dx nd : Addr} {as : List (Str × VP)} {ns : List NI} {Q : Value → Shared → Prop} (I : St g G O L m (tsO prog w x dx nd as ns) s) (hW : W w g) (hroom : A.depth < 890)
    (ha : as.lookup (Str.ofString "_node2info") = some (vref nd)) (hz : ns.length ≤ 900)
    (h : ∀ ns' n s', Ins ns k ns' n → St g G O L m (tsO prog w x dx nd as ns') s' → Q (.ref n.na) s') :
    wpAny (model prog w) A (call (.ref 203) [.ref x, .int k t]) Q E s := by
  refine call_fn (bs := [("self", .ref x), ("node", .int k t)]) I hW (by unfold recursionLimit; omega) rfl rfl rfl rfl (BindsTo.of_eq rfl) rfl rfl ?_
  intro g' L' s' env HE hW' I' E'
  refine post_gen fun Q0 hQ0 => ?_
  dsimp only at HE
  have I2 := I'.loc (m' := [("self", vref x), ("node", isI k)]) ⟨⟨_, rfl, fun _ x => x⟩, ⟨_, rfl, fun _ x => ⟨_, x⟩⟩, trivial⟩
  clear I'
  refine wpAny_execs_cons ?_
  refine wpAny_mono (Q := fun fl s5 => fl = .next ∧ ∃ ns' n, Ins ns k ns' n ∧ St g' G O L' [nm "result" (vref n.na)] (tsO prog w x dx nd as ns') s5) ?ifA ?ifB fun _ _ x => x
  case ifB =>
    rintro fl s5 ⟨rfl, ns', n, hins, I5⟩
    refine wpAny_execs_cons ?_; refine wpAny_Return_some ?_; refine ldV (by assumption) (by assumption) (by rfl) ?_
    exact hQ0 _ _ ⟨_, _, I5, fun J => h ns' n _ hins J⟩
  case ifA =>
    refine wpAny_If ?_
    refine wpAny_isTrue_Compare1 ?_; refine wpAny_NamedExpr ?_; refine methodCall_KW ?_; refine Attribute_any_ ?_; refine ldV (by assumption) (by assumption) (by rfl) ?_
    refine getA I2 hW' (i := 0) (j := 1) rfl rfl (by rfl) (by rfl) (by rfl) ha handed_ref ?_
    rintro _ s3 rfl I3
    refine meth_of_on (getDM I3 hW' (i := 2) rfl ?_)
    refine ldI (by assumption) (by assumption) (by rfl) (fun _ => ?_)
    refine ⟨k, _, rfl, I3, fun hk s4 I4 => ?_, fun P hP v s4 hv I4 => ?_⟩
    · rw [nodeD_keys] at hk
      refine wpAny_assign_Name ?_; refine sto (P := isV _) (by assumption) (by assumption) rfl (fun _ _ => ?_); refine wpAny_Constant_none ?_; refine wpAny_is_plain rfl (wpAny_truthy_bool ?_); rw [if_pos (show (Value.none == Value.none) = true from rfl)]; refine wpAny_execs_cons ?_
      rename St _ _ _ _ _ _ _ => I5
      refine wpAny_Assign_two ?_
      refine wpAny_Call_NameR ?_; refine ldG (by assumption) (by assumption) (by assumption) (g_NodeInfo _) ?_; refine callWith_K (W.k (by assumption)) (by with_unfolding_all rfl) ?_; refine PyProof.Rows.args_cons ?_; refine ldI (by assumption) (by assumption) (by rfl) (fun _ => ?_); refine PyProof.Rows.args_nil ?_; refine ⟨St.inK (by assumption) (by assumption), ?_⟩
      refine nodeNew I5 hW' (by simp only [Around.deeper]; omega) ?_
      intro n s6 hnk hnp hns I6
      refine asgSub ?_
      refine Attribute_any_ ?_; refine ldV (by assumption) (by assumption) (by rfl) ?_
      refine getA I6 hW' (i := 0) (j := 1) rfl rfl (by rfl) (by rfl) (by rfl) ha handed_ref ?_
      rintro _ s7 rfl I7
      refine ldI (by assumption) (by assumption) (by rfl) (fun _ => ?_)
      refine setD I7 (i := 2) rfl (by rw [nodeD_keys]; exact hk) (P := vref n.na) rfl ?_ (by unfold nodeD; rw [List.length_map]; omega)
      intro s8 I8
      refine wpAny_assign_Name ?_; refine sto (P := isV _) (by assumption) (by assumption) rfl (fun _ _ => ?_)
      rename St _ _ _ _ _ _ _ => I9
      refine wpAny_execs_nil ⟨rfl, ns ++ [n], n, ⟨by simp, hnk, .inr ⟨hk, rfl, hnp, hns⟩⟩, ?_⟩
      have e : tsO prog w x dx nd as (ns ++ [n]) = (tsO prog w x dx nd as ns ++ gr [n]).set 2 (nd, isD prog w (nodeD ns ++ [(k, vref n.na)])) := by
        unfold tsO nodeD
        rw [gr_append, List.map_append, ← hnk]
        rfl
      rw [e]
      exact I9.loc ⟨⟨_, rfl, fun _ x => x⟩, trivial⟩
    · unfold nodeD at hP
      obtain ⟨n, hn, e⟩ := List.mem_map.mp hP
      obtain ⟨rfl, rfl⟩ := Prod.mk.inj e
      obtain rfl : v = .ref n.na := hv
      refine wpAny_assign_Name ?_; refine sto (P := isV _) (by assumption) (by assumption) rfl (fun _ _ => ?_); refine wpAny_Constant_none ?_; refine wpAny_is_plain rfl (wpAny_truthy_bool ?_); rw [if_neg (show ¬ ((Value.ref _ == Value.none) = true) from Bool.false_ne_true)]
      rename St _ _ _ _ _ _ _ => I5
      refine wpAny_execs_nil ⟨rfl, ns, n, ⟨hn, rfl, .inl ⟨List.mem_map_of_mem hn, rfl⟩⟩, I5.loc ⟨⟨_, rfl, fun _ x => x⟩, trivial⟩⟩
end
end Mine
end
-- MG3
section
open PySem PySem.W PyProof.Rows
set_option maxRecDepth 100000
set_option maxHeartbeats 4000000
namespace Mine

section
variable {prog : Program} {w : World} {A : Around} {E : Value → Shared → Prop} {s : Shared}
variable {g : Heap} {G : Array GenState} {O : OsState} {L : Addr} {m : List (Str × VP)} {objs : List (Addr × OP)}
theorem wpAny_of_eqB {M : Model} {α : Type} {m m' : Sem α} {Q : α → Shared → Prop} (e : m = m') (h : wpAny M A m' Q E s) : wpAny M A m Q E s := e ▸ h
theorem oIAdd {a b : Int} {t u : Tok} {Q : Value → Shared → Prop} (I : St g G O L m objs s) (h : ∀ t s', St g G O L m objs s' → Q (.int (a + b) t) s') : wpAny (model prog w) A (inplaceOp .Add (.int a t) (.int b u)) Q E s :=
  AutoIntOps.iadd_0 (h _ _ (I.tk _))
theorem oISub {a b : Int} {t u : Tok} {Q : Value → Shared → Prop} (I : St g G O L m objs s) (h : ∀ t s', St g G O L m objs s' → Q (.int (a - b) t) s') : wpAny (model prog w) A (inplaceOp .Sub (.int a t) (.int b u)) Q E s :=
  AutoIntOps.isub_0 (h _ _ (I.tk _))
theorem lenT {i : Nat} {l : Addr} {ps : List VP} {Q : Value → Shared → Prop} (I : St g G O L m objs s) (hi : objs[i]? = some (l, isT ps)) (h : ∀ t s', St g G O L m objs s' → Q (.int ps.length t) s') (hz : ps.length < 2 ^ 63 := by omega) :
    wpAny (model prog w) A (call (.builtin "len") [.ref l]) Q E s := by
  obtain ⟨vs, n, hl, hf⟩ := I.tup hi
  refine PyProof.Rows.len_tuple (isTuple_of hl) (by rw [List.size_toArray, ← hf.1]; omega) ?_
  rw [List.size_toArray, ← hf.1]
  exact h _ _ (I.tk _)

theorem get_app {α : Type _} {l r : List α} {i : Nat} {x : α} (h : l[i]? = some x) : (l ++ r)[i]? = some x := by
  rw [List.getElem?_append_left (List.getElem?_eq_some_iff.mp h).1]; exact h
theorem set_app {α : Type _} {l r : List α} {i : Nat} {x y : α} (h : l[i]? = some x) : (l ++ r).set i y = l.set i y ++ r := by
  rw [List.set_append_left _ _ (List.getElem?_eq_some_iff.mp h).1]
theorem ts_rec {x dx nd : Addr} {as : List (Str × VP)} {ns : List NI} {fr : List (Addr × OP)} {i : Nat} {n : NI} (h : ns[i]? = some n) : (tsO prog w x dx nd as ns ++ fr)[3 * i + 3]? = some n.recO := get_app (l := tsO prog w x dx nd as ns) (gr_rec h)
theorem ts_emp {x dx nd : Addr} {as : List (Str × VP)} {ns : List NI} {fr : List (Addr × OP)} {i : Nat} {n : NI} (h : ns[i]? = some n) : (tsO prog w x dx nd as ns ++ fr)[3 * i + 1 + 3]? = some (n.da, isO emptyDict) := get_app (l := tsO prog w x dx nd as ns) (gr_emp h)
theorem ts_suc {x dx nd : Addr} {as : List (Str × VP)} {ns : List NI} {fr : List (Addr × OP)} {i : Nat} {n : NI} (h : ns[i]? = some n) : (tsO prog w x dx nd as ns ++ fr)[3 * i + 2 + 3]? = some (n.sa, isLI n.succ) := get_app (l := tsO prog w x dx nd as ns) (gr_suc h)
theorem ts_setRec {x dx nd : Addr} {as : List (Str × VP)} {ns : List NI} {fr : List (Addr × OP)} {i : Nat} {n : NI} (np : Int) (h : ns[i]? = some n) : (tsO prog w x dx nd as ns ++ fr).set (3 * i + 3) ({ n with np := np } : NI).recO = tsO prog w x dx nd as (ns.set i { n with np := np }) ++ fr := by
  rw [set_app (l := tsO prog w x dx nd as ns) (gr_rec h)]
  unfold tsO
  rw [nodeD_set h (by rfl) (by rfl), ← gr_setRec np h]
  rfl
theorem ts_setSuc {x dx nd : Addr} {as : List (Str × VP)} {ns : List NI} {fr : List (Addr × OP)} {i : Nat} {n : NI} (l : List Int) (h : ns[i]? = some n) : (tsO prog w x dx nd as ns ++ fr).set (3 * i + 2 + 3) (n.sa, isLI l) = tsO prog w x dx nd as (ns.set i { n with succ := l }) ++ fr := by
  rw [set_app (l := tsO prog w x dx nd as ns) (gr_suc h)]
  unfold tsO
  rw [nodeD_set h (by rfl) (by rfl), ← gr_setSuc l h]
  rfl
theorem npGet {x dx nd : Addr} {as : List (Str × VP)} {ns : List NI} {fr : List (Addr × OP)} {i : Nat} {n : NI} {expr : Bool} {Q : Value → Shared → Prop} (I : St g G O L m (tsO prog w x dx nd as ns ++ fr) s) (hW : W w g) (hi : ns[i]? = some n)
    (h : ∀ t s', St g G O L m (tsO prog w x dx nd as ns ++ fr) s' → Q (.int n.np t) s') : wpAny (model prog w) A (getAttr (.ref n.na) "npredecessors" expr) Q E s :=
  slotGet I hW (ts_rec hi) (ts_emp hi) (p := 165) (k := 1) (fun _ => by rfl) (by rfl) rfl handed_int (fun v s' ⟨t, e⟩ I' => e ▸ h t s' I')
theorem npSet {x dx nd : Addr} {as : List (Str × VP)} {ns : List NI} {fr : List (Addr × OP)} {i : Nat} {n : NI} {np : Int} {t : Tok} {Q : Unit → Shared → Prop} (I : St g G O L m (tsO prog w x dx nd as ns ++ fr) s) (hW : W w g) (hi : ns[i]? = some n)
    (h : ∀ s', St g G O L m (tsO prog w x dx nd as (ns.set i { n with np := np }) ++ fr) s' → Q () s') : wpAny (model prog w) A (setAttr (.ref n.na) "npredecessors" (.int np t)) Q E s :=
  slotSet I hW (ts_rec hi) (ts_emp hi) (p := 165) (k := 1) (by rfl) (by rfl) (by rfl) (by decide) (P := isI np) ⟨_, rfl⟩ (fun s' I' => h s' (ts_setRec np hi ▸ I'))
theorem nodeGet {x dx nd : Addr} {as : List (Str × VP)} {ns : List NI} {fr : List (Addr × OP)} {i : Nat} {n : NI} {expr : Bool} {Q : Value → Shared → Prop} (I : St g G O L m (tsO prog w x dx nd as ns ++ fr) s) (hW : W w g) (hi : ns[i]? = some n)
    (h : ∀ t s', St g G O L m (tsO prog w x dx nd as ns ++ fr) s' → Q (.int n.key t) s') : wpAny (model prog w) A (getAttr (.ref n.na) "node" expr) Q E s :=
  slotGet I hW (ts_rec hi) (ts_emp hi) (p := 164) (k := 0) (fun _ => by rfl) (by rfl) rfl handed_int (fun v s' ⟨t, e⟩ I' => e ▸ h t s' I')
theorem sucGet {x dx nd : Addr} {as : List (Str × VP)} {ns : List NI} {fr : List (Addr × OP)} {i : Nat} {n : NI} {expr : Bool} {Q : Value → Shared → Prop} (I : St g G O L m (tsO prog w x dx nd as ns ++ fr) s) (hW : W w g) (hi : ns[i]? = some n)
    (h : ∀ s', St g G O L m (tsO prog w x dx nd as ns ++ fr) s' → Q (.ref n.sa) s') : wpAny (model prog w) A (getAttr (.ref n.na) "successors" expr) Q E s :=
  slotGet I hW (ts_rec hi) (ts_emp hi) (p := 166) (k := 2) (fun _ => by rfl) (by rfl) rfl handed_ref (fun v s' e I' => by
    obtain rfl : v = _ := e
    exact h s' I')

/-- add(c, p) -/
noncomputable def AddE (ns : List NI) (c p : Int) (ns' : List NI) : Prop := ∃ ns1 n1 i1 ns2 n2 i2, Ins ns c ns1 n1 ∧ ns1[i1]? = some n1 ∧ Ins (ns1.set i1 { n1 with np := n1.np + 1 }) p ns2 n2 ∧ ns2[i2]? = some n2 ∧ ns' = ns2.set i2 { n2 with succ := n2.succ ++ [c] }

theorem Ins.length {ns ns' : List NI} {k : Int} {n : NI} (h : Ins ns k ns' n) : ns'.length ≤ ns.length + 1 := by
  obtain ⟨_, _, h | h⟩ := h
  · rw [h.2]; omega
  · rw [h.2.1]; simp
theorem Ins.succ {ns ns' : List NI} {k : Int} {n : NI} (h : Ins ns k ns' n) {B : Nat} (hb : ∀ n ∈ ns, n.succ.length ≤ B) : ∀ n ∈ ns', n.succ.length ≤ B := by
  obtain ⟨_, _, h | h⟩ := h
  · rw [h.2]; exact hb
  · intro n' hn'
    rw [h.2.1] at hn'
    rcases List.mem_append.mp hn' with q | q
    · exact hb _ q
    · rw [List.mem_singleton.mp q, h.2.2.2]; exact Nat.zero_le _

theorem add_call {c p : Int} {t u : Tok} {x dx nd : Addr} {as : List (Str × VP)} {ns : List NI} {R : Result → Shared → Prop} (I : St g G O L m (tsO prog w x dx nd as ns) s) (hW : W w g) (hroom : A.depth < 880) (hh : A.handled = none)
    (ha : as.lookup (Str.ofString "_node2info") = some (vref nd)) (hr : as.lookup (Str.ofString "_ready_nodes") = some (isV .none)) (hm1 : as.lookup (Str.ofString "_get_nodeinfo") = none) (hz : ns.length ≤ 800) (hb : ∀ n ∈ ns, n.succ.length ≤ 900)
    (h : ∀ ns' s', AddE ns c p ns' → St g G O L m (tsO prog w x dx nd as ns') s' → R (.ok (.ret .none)) s') :
    codeAny (model prog w) A (.call (.ref 210) ⟨[.ref x, .int c t, .int p u], []⟩) R s := by
  refine code_fnV hW I (by unfold recursionLimit; omega) rfl rfl rfl rfl rfl ?_
  refine wpAny_of_eqB (m' := (newTuple [.int p u] >>= fun T => pure [(Str.ofString "self", .ref x), (Str.ofString "node", .int c t), (Str.ofString "predecessors", T)])) rfl ?_
  refine wpAny_bind (newT (ps := [isI p]) I (.one ⟨_, rfl⟩) ?_)
  intro T s1 I1
  refine wpAny_pure ⟨_, I1, rfl, ?_⟩
  intro g' L' s' env HE hW' I' E'
  refine post_gen fun Q0 hQ0 => ?_
  dsimp only at HE
  have I2 := I'.loc (m' := [("self", vref x), ("node", isI c), ("predecessors", vref T)]) ⟨⟨_, rfl, fun _ x => x⟩, ⟨_, rfl, fun _ x => ⟨_, x⟩⟩, ⟨_, rfl, fun _ x => x⟩, trivial⟩
  clear I'
  refine wpAny_execs_cons ?_
  refine wpAny_mono (Q := fun fl s5 => fl = .next ∧ St g' G O L' [nm "self" (vref x), nm "node" (isI c), nm "predecessors" (vref T)] (tsO prog w x dx nd as ns ++ [(T, isT [isI p])]) s5) ?ifA ?ifB fun _ _ x => x
  case ifA =>
    refine wpAny_If ?_
    refine wpAny_isTrue_Compare1 ?_; refine Attribute_any_ ?_; refine ldV (by assumption) (by assumption) (by rfl) ?_
    refine getA I2 hW' (i := 0) (j := 1) rfl rfl (by rfl) (by rfl) (by rfl) hr (by rintro _ rfl; rfl) ?_
    rintro _ s3 rfl I3
    refine wpAny_Constant_none ?_; refine wpAny_isNot_plain rfl (wpAny_truthy_bool ?_); rw [if_neg (show ¬ ((!(Value.none == Value.none)) = true) from Bool.false_ne_true)]
    exact wpAny_execs_nil ⟨rfl, I3⟩
  rintro fl s3 ⟨rfl, I3⟩
  refine wpAny_execs_cons ?_; refine wpAny_Assign_Name ?_; refine methodCall_KW ?_; refine ldV (by assumption) (by assumption) (by rfl) ?_
  refine getM I3 hW' (i := 0) (j := 1) rfl rfl (by rfl) (f := 203) (by rfl) (by rfl) hm1 ?_
  refine callWith_K (W.k (by assumption)) (by with_unfolding_all rfl) ?_; refine PyProof.Rows.args_cons ?_; refine ldI (by assumption) (by assumption) (by rfl) (fun _ => ?_); refine PyProof.Rows.args_nil ?_; refine ⟨St.inK (by assumption) (by assumption), ?_⟩
  obtain ⟨g1, I4, hg1, back1⟩ := I3.out
  refine get_node I4 (hW'.keeps hg1) (by simp only [Around.deeper]; omega) ha (by omega) ?_
  intro ns1 n1 s5 hins1 I5'
  have I5 := back1 _ _ _ I5'
  clear I2 I3 I4 I5' back1
  have hz1 := hins1.length
  have hb1 := hins1.succ hb
  obtain ⟨i1, hi1⟩ := List.mem_iff_getElem?.mp hins1.1
  refine sto (P := isV _) (by assumption) (by assumption) rfl (fun _ _ => ?_); refine wpAny_execs_cons ?_; refine wpAny_AugAssign_AttributeAny ?_; refine ldV (by assumption) (by assumption) (by rfl) ?_
  rename St _ _ _ _ _ _ _ => I6
  refine npGet I6 hW' hi1 ?_
  intro t7 s7 I7
  refine wpAny_Call_NameR ?_; refine ldB (by assumption) (by assumption) (by assumption) (g_len _) b_len ?_; refine PyProof.Rows.callWith_builtin1 ?_; refine PyProof.Rows.args_cons ?_; refine ldV (by assumption) (by assumption) (by rfl) ?_; refine PyProof.Rows.args_nil ?_
  refine lenT I7 (l := T) (ps := [isI p]) last_get ?_ (by show 1 < 2 ^ 63; omega)
  intro t8 s8 I8
  refine oIAdd I8 ?_
  intro t9 s9 I9
  refine npSet I9 hW' hi1 ?_
  intro s10 I10
  refine wpAny_execs_cons ?_
  refine wpAny_For ?_
  refine ldV (by assumption) (by assumption) (by rfl) ?_
  refine iterT I10 (l := T) (ps := [isI p]) last_get ?_
  intro it s11 I11
  have hb2 : ∀ n ∈ ns1.set i1 { n1 with np := n1.np + 1 }, n.succ.length ≤ 900 := fun n hn => by
    rcases List.mem_or_eq_of_mem_set hn with q | q
    · exact hb1 _ q
    · rw [q]; exact hb1 n1 hins1.1
  refine forI (It.tuple (by exact hh) it T [isI p]) HE (fun k m' objs' => m' = [nm "self" (vref x), nm "node" (isI c)] ∧ ∃ ns', objs' = tsO prog w x dx nd as ns' ++ [(T, isT [isI p])] ∧
    ((k = 0 ∧ ns' = ns1.set i1 { n1 with np := n1.np + 1 }) ∨ (k = 1 ∧ AddE ns c p ns'))) ⟨rfl, _, rfl, .inl ⟨rfl, rfl⟩⟩ (fun k m' objs' h q hq => by
      obtain ⟨_, ns', rfl, _⟩ := h
      rw [List.mem_singleton.mp hq]; exact last_mem) (I11.loc ⟨⟨_, rfl, fun _ x => x⟩, ⟨_, rfl, fun _ x => x⟩, trivial⟩) ?turn ?fin
  case turn =>
    intro k g2 m2 objs2 s12 hg2 hk hInv I12 E2
    refine post_gen fun Q1 hQ1 => ?_
    obtain ⟨rfl, ns2, rfl, h2⟩ := hInv
    obtain rfl : k = 0 := by simpa using hk
    obtain rfl : ns2 = ns1.set i1 { n1 with np := n1.np + 1 } := by
      rcases h2 with ⟨_, e⟩ | ⟨q, _⟩
      · exact e
      · omega
    have hW2 := hW'.keeps hg2
    have I13 := I12.loc (m' := [nm "pred" (isI p), nm "self" (vref x), nm "node" (isI c)]) ⟨⟨_, rfl, fun v hv => hv _ rfl⟩, ⟨_, rfl, fun _ x => x⟩, ⟨_, rfl, fun _ x => x⟩, trivial⟩
    clear I6 I7 I8 I9 I10 I11 I12
    refine wpAny_execs_cons ?_; refine wpAny_Assign_Name ?_; refine methodCall_KW ?_; refine ldV (by assumption) (by assumption) (by rfl) ?_
    refine getM I13 hW2 (i := 0) (j := 1) rfl rfl (by rfl) (f := 203) (by rfl) (by rfl) hm1 ?_
    refine callWith_K (W.k (by assumption)) (by with_unfolding_all rfl) ?_; refine PyProof.Rows.args_cons ?_; refine ldI (by assumption) (by assumption) (by rfl) (fun _ => ?_); refine PyProof.Rows.args_nil ?_; refine ⟨St.inK (by assumption) (by assumption), ?_⟩
    obtain ⟨g3, I14, hg3, back3⟩ := I13.out
    refine get_node I14 (hW2.keeps hg3) (by simp only [Around.deeper]; omega) ha (by rw [List.length_set]; omega) ?_
    intro ns3 n3 s15 hins3 I15'
    have I15 := back3 _ _ _ I15'
    obtain ⟨i3, hi3⟩ := List.mem_iff_getElem?.mp hins3.1
    refine sto (P := isV _) (by assumption) (by assumption) rfl (fun _ _ => ?_); refine wpAny_execs_cons ?_; refine exprS (by assumption) ?_; refine methodCall_KW ?_; refine Attribute_any_ ?_; refine ldV (by assumption) (by assumption) (by rfl) ?_
    rename St _ _ _ _ _ _ _ => I16
    refine sucGet I16 hW2 hi3 ?_
    intro s17 I17
    refine meth_of_on (appM I17 (ts_suc hi3) ?_)
    refine ldI (by assumption) (by assumption) (by rfl) (fun _ => ?_)
    have hlen := hins3.succ hb2 n3 hins3.1
    refine appLI I17 (ts_suc hi3) ?_ (by omega)
    intro s18 I18
    rw [ts_setSuc _ hi3] at I18
    exact wpAny_execs_nil (hQ1 _ _ ⟨.inl rfl, _, _, ⟨rfl, _, rfl, .inr ⟨rfl, ns1, n1, i1, ns3, n3, i3, hins1, hi1, hins3, hi3, rfl⟩⟩, I18.loc ⟨⟨_, rfl, fun _ x => x⟩, ⟨_, rfl, fun _ x => x⟩, trivial⟩⟩)
  case fin =>
    rintro m2 objs2 s12 ⟨rfl, ns2, rfl, h2⟩ I12
    rcases h2 with ⟨q, _⟩ | ⟨_, hadd⟩
    · simp at q
    exact wpAny_execs_nil (hQ0 _ _ ⟨_, _, I12, fun J => h ns2 _ hadd (J.cut rfl)⟩)
end
end Mine
end
-- MG4
section
open PySem PySem.W PyProof.Rows
set_option maxRecDepth 100000
set_option maxHeartbeats 4000000
namespace Mine

theorem updA_len (x : Str) (P : VP) : ∀ l : List (Str × VP), (updA x P l).length ≤ l.length + 1
  | [] => by simp [updA]
  | (y, Q) :: r => by
    have := updA_len x P r
    unfold updA; split <;> simp <;> omega
theorem findObj_meth {K : Frag} {C : Addr} {name : Str} {od : Obj} {a g : Value} (hh : hasDictIn K C = true) (ha : findIn K (.ref C) name = some (some a)) (hg : specialIn K a "__get__" = some (some g)) (ht : takesIn K a = some false) (hc : copiedNames.contains name = false) (hl : lookIn name od = some none) :
    findObj K C (some od) name = some (.bind g a) := by
  obtain ⟨cd, hc', hd⟩ := any_some hh
  unfold findObj
  have ho : PySem.W.ownOf cd (some od) name = some none := by unfold PySem.W.ownOf; rw [if_pos hd]; exact hl
  rw [hc', Option.bind_some, ha, Option.bind_some]
  simp only [hg, ht, Option.bind_some, ho, hc, Bool.false_and, Bool.false_eq_true, if_false]
inductive AddAll : List (Int × Int) → List NI → Prop
  | nil : AddAll [] []
  | snoc {es : List (Int × Int)} {ns ns' : List NI} {c p : Int} : AddAll es ns → AddE ns c p ns' → AddAll (es ++ [(c, p)]) ns'
theorem AddAll.bound {es : List (Int × Int)} {ns : List NI} (h : AddAll es ns) : ns.length ≤ 2 * es.length ∧ ∀ n ∈ ns, n.succ.length ≤ es.length := by
  induction h with
  | nil => exact ⟨Nat.le_refl _, fun n hn => nomatch hn⟩
  | @snoc es ns ns' c p h1 h2 ih =>
    obtain ⟨ns1, n1, i1, ns2, n2, i2, a1, a2, a3, a4, rfl⟩ := h2
    have l1 := a1.length
    have l2 := a3.length
    rw [List.length_set] at l2
    refine ⟨by rw [List.length_set]; simp; omega, fun n hn => ?_⟩
    have b1 := a1.succ ih.2
    have b2 : ∀ n ∈ ns1.set i1 { n1 with np := n1.np + 1 }, n.succ.length ≤ es.length := fun n hn => by
      rcases List.mem_or_eq_of_mem_set hn with q | q
      · exact b1 _ q
      · rw [q]; exact b1 n1 a1.1
    have b3 := a3.succ b2
    simp only [List.length_append, List.length_cons, List.length_nil]
    rcases List.mem_or_eq_of_mem_set hn with q | q
    · exact Nat.le_succ_of_le (b3 _ q)
    · rw [q]
      have := b3 n2 a3.1
      simp; omega

/-- an edge as the text lays it: the child, a list's address, the one over it -/
structure Ed where
  c : Int
  la : Addr
  p : Int
noncomputable def edD (es : List Ed) : List (Int × VP) := es.map fun e => (e.c, vref e.la)
noncomputable def edL (es : List Ed) : List (Addr × OP) := es.map fun e => (e.la, isLI [e.p])
noncomputable def edE (es : List Ed) : List (Int × Int) := es.map fun e => (e.c, e.p)
noncomputable def as0 (nd : Addr) (r : VP) (a b : Int) : List (Str × VP) := [nm "_node2info" (vref nd), nm "_ready_nodes" r, nm "_npassedout" (isI a), nm "_nfinished" (isI b)]

section
variable {prog : Program} {w : World} {A : Around} {E : Value → Shared → Prop} {s : Shared}
variable {g : Heap} {G : Array GenState} {O : OsState} {L : Addr} {m : List (Str × VP)} {objs : List (Addr × OP)}

theorem ts_new {gd : Addr} {es : List Ed} {Q : Value → Shared → Prop} (I : St g G O L m ((gd, isD prog w (edD es)) :: edL es) s) (hW : W w g) (hroom : A.depth < 870) (hh : A.handled = none) (hz : es.length ≤ 300)
    (h : ∀ x dx nd ns s', AddAll (edE es) ns → St g G O L m (tsO prog w x dx nd (as0 nd (isV .none) 0 0) ns ++ ((gd, isD prog w (edD es)) :: edL es)) s' → Q (.ref x) s') :
    wpAny (model prog w) A (call (.ref 260) [.ref gd]) Q E s := by
  refine makeI I hW (by rfl) (fI := 196) (by rfl) (by rfl) ?_
  intro x dx s1 I1 E1
  have I3 : St g G O L m ([(x, isO (instObj 260 dx)), (dx, isA [])] ++ ((gd, isD prog w (edD es)) :: edL es)) s1 := by
    have I2 := I1.weakO (objs' := ((gd, isD prog w (edD es)) :: edL es) ++ [(dx, isA []), (x, isO (instObj 260 dx))]) (by simp) (fun p hp => by
      rcases List.mem_append.mp hp with q | q
      · exact ⟨p, List.mem_append_left _ q, rfl, fun _ x => x⟩
      · simp only [List.mem_cons, List.not_mem_nil, or_false] at q
        rcases q with rfl | rfl
        · exact ⟨(dx, isO emptyDict), List.mem_append_right _ (.head _), rfl, fun o e => ⟨[], 0, by rw [show o = _ from e], rfl, fun i x P e h => by simp at h⟩⟩
        · exact ⟨_, List.mem_append_right _ (.tail _ (.head _)), rfl, fun _ x => x⟩)
    exact I2.perm ((List.Perm.append_right _ (List.Perm.swap _ _ _)).trans List.perm_append_comm)
  clear I1
  refine code_fnV hW I3 (show A.depth + 1 < recursionLimit by unfold recursionLimit; omega) rfl rfl rfl rfl rfl ?_
  refine binds_K (K := KF w) (binds := [("self", .ref x), ("graph", .ref gd)]) (I3.inK hW) rfl rfl rfl rfl rfl _ _ _ _ ?_
  refine ⟨_, I3, rfl, ?_⟩
  intro g' L' s' env HE hW' I' E'
  refine post_gen fun Q0 hQ0 => ?_
  dsimp only at HE
  have I4 := I'.loc (m' := [("self", vref x), ("graph", vref gd)]) ⟨⟨_, rfl, fun _ x => x⟩, ⟨_, rfl, fun _ x => x⟩, trivial⟩
  clear I'
  refine wpAny_execs_cons ?_; refine plainObj_wpAny_Assign_Attribute ?_
  refine newDct (prog := prog) (w := w) I4 ?_
  intro nd s5 I5
  refine ldV (by assumption) (by assumption) (by rfl) ?_
  refine setA I5 hW' (i := 0) (j := 1) rfl rfl (by rfl) (by rfl) (by rfl) (by rfl) (by simp) (P := vref nd) rfl ?_
  intro s6 I6
  refine wpAny_execs_cons ?_; refine plainObj_wpAny_Assign_Attribute ?_; refine wpAny_Constant_none ?_; refine ldV (by assumption) (by assumption) (by rfl) ?_
  refine setA I6 hW' (i := 0) (j := 1) rfl rfl (by rfl) (by rfl) (by rfl) (by rfl) (by simp [updA]) (P := isV .none) rfl ?_
  intro s7 I7
  refine wpAny_execs_cons ?_; refine plainObj_wpAny_Assign_Attribute ?_; refine cI (by assumption) (fun _ _ _ => ?_); refine ldV (by assumption) (by assumption) (by rfl) ?_
  rename St _ _ _ _ _ _ _ => I7'
  refine setA I7' hW' (i := 0) (j := 1) rfl rfl (by rfl) (by rfl) (by rfl) (by rfl) (by show 2 ≤ 900; omega) (P := isI 0) ⟨_, rfl⟩ ?_
  intro s8 I8
  refine wpAny_execs_cons ?_; refine plainObj_wpAny_Assign_Attribute ?_; refine cI (by assumption) (fun _ _ _ => ?_); refine ldV (by assumption) (by assumption) (by rfl) ?_
  rename St _ _ _ _ _ _ _ => I8'
  refine setA I8' hW' (i := 0) (j := 1) rfl rfl (by rfl) (by rfl) (by rfl) (by rfl) (by show 3 ≤ 900; omega) (P := isI 0) ⟨_, rfl⟩ ?_
  intro s9 I9
  have I10 : St g' G O L' [("self", vref x), ("graph", vref gd)] (tsO prog w x dx nd (as0 nd (isV .none) 0 0) [] ++ ((gd, isD prog w (edD es)) :: edL es)) s9 := by
    have e : updA (Str.ofString "_nfinished") (isI 0) (updA (Str.ofString "_npassedout") (isI 0) (updA (Str.ofString "_ready_nodes") (isV .none) (updA (Str.ofString "_node2info") (vref nd) []))) = as0 nd (isV .none) 0 0 := by rfl
    rw [e] at I9
    refine I9.perm ?_
    show List.Perm ((x, isO (instObj 260 dx)) :: (dx, isA (as0 nd (isV .none) 0 0)) :: ([(nd, isD prog w [])] ++ ((gd, isD prog w (edD es)) :: edL es))) ((x, isO (instObj 260 dx)) :: (dx, isA (as0 nd (isV .none) 0 0)) :: (((gd, isD prog w (edD es)) :: edL es) ++ [(nd, isD prog w [])]))
    exact (List.perm_append_comm.cons _).cons _
  clear I4 I5 I6 I7 I7' I8 I8' I9
  refine wpAny_execs_cons ?_
  refine wpAny_If ?_
  refine wpAny_isTrue_Compare1 ?_; refine ldV (by assumption) (by assumption) (by rfl) ?_; refine wpAny_Constant_none ?_; refine wpAny_isNot_plain rfl (wpAny_truthy_bool ?_); rw [if_pos (show (!(Value.ref _ == Value.none)) = true from rfl)]; refine wpAny_execs_cons ?_
  refine wpAny_For ?_
  refine methodCall_KW ?_; refine ldV (by assumption) (by assumption) (by rfl) ?_
  refine meth_of_on (itemsM I10 hW' (i := 3) rfl ?_)
  intro v s11 I11
  obtain ⟨ep, I12⟩ := I11.fixD (i := 3) rfl
  refine iterIw I12 (i := 3) (j := (tsO prog w x dx nd (as0 nd (isV .none) 0 0) [] ++ (gd, isDE prog w (edD es) ep) :: edL es).length) rfl (last_get (objs := tsO prog w x dx nd (as0 nd (isV .none) 0 0) [] ++ (gd, isDE prog w (edD es) ep) :: edL es)) ?_
  intro it s13 I13
  generalize hFR : (gd, isDE prog w (edD es) ep) :: edL es ++ [(v, isVw gd "dict_items")] = FR
  have I14 : St g' G O L' [nm "self" (vref x)] ((tsO prog w x dx nd (as0 nd (isV .none) 0 0) [] ++ FR) ++ [(it, isIit gd 0 (edD es).length ep)]) s13 := by
    rw [← hFR]
    refine (I13.loc (m' := [nm "self" (vref x)]) ⟨⟨_, rfl, fun _ x => x⟩, trivial⟩).cast ?_
    rw [← List.append_assoc]
    rfl
  have hlen : (edD es).length = es.length := by unfold edD; simp
  have hgd : (gd, isDE prog w (edD es) ep) ∈ FR := by rw [← hFR]; exact .head _
  have hla : ∀ k (hk : k < es.length), FR[k + 1]? = some (es[k].la, isLI [es[k].p]) := fun k hk => by
    rw [← hFR]
    refine get_app (l := (gd, isDE prog w (edD es) ep) :: edL es) ?_
    show (edL es)[k]? = _
    unfold edL
    rw [List.getElem?_map, List.getElem?_eq_getElem hk]; rfl
  clear I10 I11 I12 I13
  refine forI2 (by exact hh) (It2.items (by exact hh) it gd (edD es) ep) HE (fun k m' objs' => m' = [nm "self" (vref x)] ∧ ∃ ns, AddAll ((edE es).take k) ns ∧ objs' = tsO prog w x dx nd (as0 nd (isV .none) 0 0) ns ++ FR) ⟨rfl, [], .nil, rfl⟩
    (fun k m' objs' h q hq => by
      obtain ⟨_, ns, _, rfl⟩ := h
      rw [List.mem_singleton.mp hq]; exact List.mem_append_right _ hgd) I14 ?turn ?fin
  case turn =>
    intro k g2 m2 objs2 s15 hg2 hk hInv I15 E2
    refine post_gen fun Q1 hQ1 => ?_
    obtain ⟨rfl, ns, hadd, rfl⟩ := hInv
    have hW2 := hW'.keeps hg2
    have hk' : k < es.length := hlen ▸ hk
    have hek : (edD es)[k]? = some (es[k].c, vref es[k].la) := by unfold edD; rw [List.getElem?_map, List.getElem?_eq_getElem hk']; rfl
    have I16 := I15.loc (m' := [nm "node" (isI es[k].c), nm "predecessors" (vref es[k].la), nm "self" (vref x)]) ⟨⟨_, rfl, fun v hv => hv _ hek⟩, ⟨_, rfl, fun v hv => hv _ hek⟩, ⟨_, rfl, fun _ x => x⟩, trivial⟩
    clear I14 I15
    have hbd := hadd.bound
    have htk : ((edE es).take k).length ≤ 300 := by unfold edE; simp; omega
    refine wpAny_execs_cons ?_; refine exprS (by assumption) ?_
    refine starCall ?_
    refine ldV (by assumption) (by assumption) (by rfl) ?_
    refine getBM I16 hW2 (i := 0) (j := 1) rfl rfl (by rfl) (f := 210) (fun od h => findObj_meth (by rfl) (by rfl) (by rfl) (by rfl) (by rfl) h) (by rfl) (by rfl) ?_
    intro q s17 I17
    refine starM (x := x) (f210 w) ?_
    refine PyProof.Rows.args_cons ?_; refine ldI (by assumption) (by assumption) (by rfl) (fun _ => ?_)
    refine items_star ?_
    refine ldV (by assumption) (by assumption) (by rfl) ?_
    have hidx : (tsO prog w x dx nd (as0 nd (isV .none) 0 0) ns ++ FR ++ [(q, isO (methodObj (.ref 210) (.ref x)))])[(tsO prog w x dx nd (as0 nd (isV .none) 0 0) ns).length + (k + 1)]? = some (es[k].la, isLI [es[k].p]) := by
      rw [List.append_assoc, List.getElem?_append_right (Nat.le_add_right ..), Nat.add_sub_cancel_left]
      exact get_app (hla k hk')
    refine starL I17 hidx (by simp) ?_
    intro vs s18 hf I18
    obtain ⟨u, rfl⟩ : ∃ u, vs = [.int es[k].p u] := by
      match vs, hf with
      | [v0], hf => obtain ⟨u, rfl⟩ := hf.2 0 (isI es[k].p) v0 rfl rfl; exact ⟨u, rfl⟩
      | [], hf => have := hf.1; simp at this
      | _ :: _ :: _, hf => have := hf.1; simp at this
    refine PyProof.Rows.args_nil ?_
    obtain ⟨oq, hq1, hq2⟩ := (I18.led (q, _) last_mem).1
    have hq2' : oq = _ := hq2
    subst hq2'
    refine ⟨⟨hq1, I18.inK hW2⟩, wpAny_call (method_call hq1 ?_)⟩
    rw [List.append_assoc] at I18
    obtain ⟨g3, I19, hg3, back3⟩ := I18.out
    refine add_call I19 (hW2.keeps hg3) (show A.depth + 1 + 1 < 880 by omega) (by exact hh) rfl rfl rfl (by omega) (fun n hn => by have := hbd.2 n hn; omega) ?_
    intro ns' s20 hadd' I20
    have I21 := back3 _ _ _ I20
    rw [← List.append_assoc] at I21
    refine wpAny_execs_nil (hQ1 _ _ ⟨.inl rfl, _, _, ⟨rfl, ns', ?_, rfl⟩, (I21.cut rfl).loc ⟨⟨_, rfl, fun _ x => x⟩, trivial⟩⟩)
    have e : (edE es).take (k + 1) = (edE es).take k ++ [(es[k].c, es[k].p)] := by
      have : k < (edE es).length := by unfold edE; simpa using hk'
      rw [List.take_add_one, List.getElem?_eq_getElem this]
      simp [edE]
    rw [e]
    exact .snoc hadd hadd'
  case fin =>
    rintro m2 objs2 s15 ⟨rfl, ns, hadd, rfl⟩ I15
    have e : (edE es).take (edD es).length = edE es := by rw [hlen]; exact List.take_of_length_le (by unfold edE; simp)
    rw [e] at hadd
    refine wpAny_execs_nil (wpAny_execs_nil (hQ0 _ _ ⟨_, _, I15, fun J => ⟨rfl, h x dx nd ns _ hadd ?_⟩⟩))
    rw [← hFR, ← List.append_assoc] at J
    refine (J.cut rfl).weakO (by simp) (fun p hp => ?_)
    rcases List.mem_append.mp hp with q | q
    · exact ⟨p, List.mem_append_left _ q, rfl, fun _ x => x⟩
    · rcases List.mem_cons.mp q with rfl | q
      · exact ⟨(gd, isDE prog w (edD es) ep), List.mem_append_right _ (.head _), rfl, fun o h => h.weak⟩
      · exact ⟨p, List.mem_append_right _ (.tail _ q), rfl, fun _ x => x⟩
end
end Mine
end
-- MN7
section
open PySem PySem.W PyProof.Rows
set_option maxRecDepth 100000
set_option maxHeartbeats 4000000
namespace Mine
/-- an open iterator of the search -/
structure SE where
  key : Int
  q : Addr
  it : Addr
  sa : Addr
  j : Nat
  succ : List Int
noncomputable def seL : List SE → List (Addr × OP)
  | [] => []
  | e :: r => (e.q, isO (wrapO e.it)) :: (e.it, isLit e.sa e.j) :: seL r
theorem seL_append : ∀ (a b : List SE), seL (a ++ b) = seL a ++ seL b
  | [], b => rfl
  | e :: r, b => by show _ :: _ :: seL (r ++ b) = _; rw [seL_append r b]; rfl
noncomputable def idxP : Nat → List Int → List (Int × VP)
  | _, [] => []
  | i, k :: r => (k, isI i) :: idxP (i + 1) r
theorem idxP_append (i : Nat) (l : List Int) (k : Int) : idxP i (l ++ [k]) = idxP i l ++ [(k, isI ((i + l.length : Nat) : Int))] := by
  induction l generalizing i with
  | nil => rfl
  | cons x r ih =>
    show (x, isI i) :: idxP (i + 1) (r ++ [k]) = _
    rw [ih, show i + 1 + r.length = i + (x :: r).length by simp; omega]; rfl
theorem idxP_keys (i : Nat) (l : List Int) : (idxP i l).map (·.1) = l := by
  induction l generalizing i with
  | nil => rfl
  | cons x r ih => show x :: _ = _; rw [ih]
theorem idxP_length (i : Nat) (l : List Int) : (idxP i l).length = l.length := by
  have := congrArg List.length (idxP_keys i l); simpa using this
noncomputable def fcO (prog : Program) (w : World) (stk its sn n2 x dx nd : Addr) (as : List (Str × VP)) (ns : List NI) (ep : Nat) (fr : List (Addr × OP)) (ss : List Int) (st : List SE) : List (Addr × OP) :=
  (stk, isLI (st.map (·.key))) :: (its, isL (st.map fun e => vref e.q)) :: (sn, isSt prog w ss) :: (n2, isD prog w (idxP 0 (st.map (·.key)))) :: (x, isO (instObj 260 dx)) :: (dx, isA as) :: (nd, isDE prog w (nodeD ns) ep) :: (gr ns ++ (fr ++ seL st))
structure SInv (ns : List NI) (rk : Int → Nat) (ss : List Int) (st : List SE) : Prop where
  nodes : ∀ e ∈ st, (∃ n ∈ ns, n.key = e.key ∧ n.sa = e.sa ∧ n.succ = e.succ) ∧ e.j ≤ e.succ.length
  up : st.Pairwise fun a b => rk a.key < rk b.key
  ssk : ∀ c ∈ ss, c ∈ keysN ns
  ssn : ss.Nodup
noncomputable def NodeOK (ns : List NI) (rk : Int → Nat) (c : Int) (st : List SE) : Prop := c ∈ keysN ns ∧ ∀ e ∈ st, rk e.key < rk c
noncomputable def US : List NI → List Int → Nat
  | [], _ => 0
  | n :: r, ss => (if n.key ∈ ss then 0 else n.succ.length) + US r ss
noncomputable def SS (st : List SE) : Nat := (st.map fun e => e.succ.length - e.j).sum
theorem US_none {k : Int} : ∀ {ns : List NI} {ss : List Int}, k ∉ keysN ns → US ns (ss ++ [k]) = US ns ss
  | [], _, _ => rfl
  | m :: r, ss, h => by
    have h1 : m.key ≠ k := fun q => h (by rw [← q]; exact .head _)
    have h2 : k ∉ keysN r := fun q => h (.tail _ q)
    show (if m.key ∈ ss ++ [k] then 0 else _) + US r (ss ++ [k]) = (if m.key ∈ ss then 0 else _) + US r ss
    rw [US_none h2]
    simp [h1]
theorem US_snoc {n : NI} : ∀ {ns : List NI} {ss : List Int}, n ∈ ns → (keysN ns).Nodup → n.key ∉ ss → US ns ss = US ns (ss ++ [n.key]) + n.succ.length
  | [], _, h, _, _ => nomatch h
  | m :: r, ss, h, hn, hs => by
    have hn' : m.key ∉ keysN r ∧ (keysN r).Nodup := List.nodup_cons.mp hn
    show (if m.key ∈ ss then 0 else _) + US r ss = (if m.key ∈ ss ++ [n.key] then 0 else _) + US r (ss ++ [n.key]) + _
    rcases List.mem_cons.mp h with rfl | h
    · rw [if_neg hs, if_pos (by simp), US_none hn'.1]; omega
    · have h1 : m.key ≠ n.key := fun q => hn'.1 (by rw [q]; exact List.mem_map_of_mem h)
      rw [US_snoc h hn'.2 hs]
      simp [h1]; omega
theorem SInv.pop {ns : List NI} {rk : Int → Nat} {ss : List Int} {st : List SE} {e : SE} (h : SInv ns rk ss (st ++ [e])) : SInv ns rk ss st :=
  ⟨fun e' he => h.nodes e' (List.mem_append_left _ he), (List.pairwise_append.mp h.up).1, h.ssk, h.ssn⟩
theorem SInv.step {ns : List NI} {rk : Int → Nat} {ss : List Int} {st : List SE} {e : SE} (h : SInv ns rk ss (st ++ [e])) (hj : e.j + 1 ≤ e.succ.length) : SInv ns rk ss (st ++ [{ e with j := e.j + 1 }]) := by
  refine ⟨fun e' he => ?_, ?_, h.ssk, h.ssn⟩
  · rcases List.mem_append.mp he with q | q
    · exact h.nodes e' (List.mem_append_left _ q)
    · rw [List.mem_singleton.mp q]
      exact ⟨(h.nodes e (by simp)).1, hj⟩
  · have := h.up
    rw [List.pairwise_append] at this ⊢
    refine ⟨this.1, by simp, fun a ha b hb => ?_⟩
    rw [List.mem_singleton.mp hb]
    exact this.2.2 a ha e (by simp)
theorem SInv.ok {ns : List NI} {rk : Int → Nat} {ss : List Int} {st : List SE} {e : SE} (h : SInv ns rk ss (st ++ [e])) (hr : ∀ n ∈ ns, ∀ c ∈ n.succ, c ∈ keysN ns ∧ rk n.key < rk c) {c : Int} (hc : c ∈ e.succ) : NodeOK ns rk c (st ++ [{ e with j := e.j + 1 }]) := by
  obtain ⟨⟨n, hn, h1, h2, h3⟩, _⟩ := h.nodes e (by simp)
  obtain ⟨r1, r2⟩ := hr n hn c (h3 ▸ hc)
  rw [h1] at r2
  refine ⟨r1, fun e' he => ?_⟩
  rcases List.mem_append.mp he with q | q
  · exact Nat.lt_trans ((List.pairwise_append.mp h.up).2.2 e' q e (by simp)) r2
  · rw [List.mem_singleton.mp q]; exact r2
theorem SInv.push {ns : List NI} {rk : Int → Nat} {ss : List Int} {st : List SE} {e : SE} {n : NI} (h : SInv ns rk ss st) (hn : n ∈ ns) (h1 : n.key = e.key) (h2 : n.sa = e.sa) (h3 : n.succ = e.succ) (hj : e.j = 0) (hss : e.key ∉ ss)
    (hc : NodeOK ns rk e.key st) : SInv ns rk (ss ++ [e.key]) (st ++ [e]) := by
  refine ⟨fun e' he => ?_, ?_, fun c hc' => ?_, ?_⟩
  · rcases List.mem_append.mp he with q | q
    · exact h.nodes e' q
    · rw [List.mem_singleton.mp q]; exact ⟨⟨n, hn, h1, h2, h3⟩, by omega⟩
  · rw [List.pairwise_append]
    refine ⟨h.up, by simp, fun a ha b hb => ?_⟩
    rw [List.mem_singleton.mp hb]; exact hc.2 a ha
  · rcases List.mem_append.mp hc' with q | q
    · exact h.ssk c q
    · rw [List.mem_singleton.mp q]; exact hc.1
  · exact List.nodup_append.mpr ⟨h.ssn, by simp, fun a ha b hb e' => by rw [List.mem_singleton.mp hb] at e'; subst e'; exact hss ha⟩
theorem SInv.nin {ns : List NI} {rk : Int → Nat} {ss : List Int} {st : List SE} {c : Int} (hc : NodeOK ns rk c st) : c ∉ st.map (·.key) := fun q => by
  obtain ⟨e, he, rfl⟩ := List.mem_map.mp q
  exact Nat.lt_irrefl _ (hc.2 e he)
theorem SInv.len {ns : List NI} {rk : Int → Nat} {ss : List Int} {st : List SE} (h : SInv ns rk ss st) : ss.length ≤ ns.length ∧ st.length ≤ ns.length := by
  refine ⟨Nat.le_trans (nodup_sub_len h.ssn h.ssk) (by unfold keysN; simp), ?_⟩
  have : (st.map (·.key)).Nodup := List.pairwise_map.mpr (h.up.imp fun q e => by rw [e] at q; exact Nat.lt_irrefl _ q)
  have := nodup_sub_len this (k := keysN ns) fun c hc => by
    obtain ⟨e, he, rfl⟩ := List.mem_map.mp hc
    obtain ⟨⟨n, hn, h1, _⟩, _⟩ := h.nodes e he
    rw [← h1]; exact List.mem_map_of_mem hn
  unfold keysN at this
  simpa using this
theorem SS_snoc (st : List SE) (e : SE) : SS (st ++ [e]) = SS st + (e.succ.length - e.j) := by unfold SS; simp
section
variable {prog : Program} {w : World} {A : Around} {E : Value → Shared → Prop} {s : Shared}
variable {g : Heap} {G : Array GenState} {O : OsState} {L : Addr} {m : List (Str × VP)} {objs : List (Addr × OP)} {env : Env} {names : List (Str × NameKind)} {cs : List (Str × Addr)}
theorem subscrDE {value slice : Expr} {i : Nat} {d : Addr} {ps : List (Int × VP)} {ep : Nat} {k : Int} {t : Tok} {P : VP} {Q : Value → Shared → Prop} (I : St g G O L m objs s) (hi : objs[i]? = some (d, isDE prog w ps ep)) (hk : (k, P) ∈ ps)
    (h : ∀ v s', P v → St g G O L m objs s' → Q v s') (hs : subscripted slice false (.ref d) (.int k t) = operate [.ref d, .int k t] (getItem (.ref d) (.int k t)) := by rfl) :
    wpAny (model prog w) A (subscriptTail value slice (.ref d) (.int k t)) Q E s := by
  have I2 := I.weakD hi
  have hi2 := set_here (q := (d, isD prog w ps)) hi
  obtain ⟨kvs, hd, h3, h4⟩ := I2.dict hi2
  obtain ⟨v, h5, h6⟩ := find_of h3 h4 hk (I2.dictNd hi2)
  exact tail_any hd.typeIs slot_dict_getitem.lookup (wpAny_getItem_of (intKind_is prog w k t) hd.mapOf h5 (h v _ h6 (I.tk _))) hs
noncomputable abbrev litO (l : Addr) : Obj := { cls := .type "list_iterator", data := .fields #[.ref l, .int 0 0] }
theorem iterAt {i : Nat} {l : Addr} {ps : List VP} {Q : Value → Shared → Prop} (I : St g G O L m objs s) (hi : objs[i]? = some (l, isL ps))
    (h : ∀ it s', St g G O L m (objs ++ [(it, isO (litO l))]) s' → Q (.ref it) s') : wpAny (model prog w) A (call (.builtin "iter") [.ref l]) Q E s := by
  obtain ⟨vs, n, hl, hf⟩ := I.list hi
  exact iterC (isList_of hl) (h _ _ (I.push (o := litO l) (P := isO (litO l)) rfl rfl rfl rfl rfl))
theorem nextAt {l it : Addr} {Q : Value → Shared → Prop} (I : St g G O L m (objs ++ [(it, isO (litO l))]) s)
    (h : ∀ q s', St g G O L m (objs ++ [(q, isO (wrapO it)), (it, isLit l 0)]) s' → Q (.ref q) s') : wpAny (model prog w) A (getAttr (.ref it) "__next__" true) Q E s := by
  obtain ⟨⟨o, h1, h2⟩, _⟩ := I.led _ last_mem
  have h2' : o = _ := h2
  subst h2'
  refine next_attr h1 fun tk => h _ _ ?_
  have I2 := I.push (o := wrapO it) (P := isO (wrapO it)) (s' := { s with heap := s.heap.push (wrapO it), toks := tk }) rfl rfl rfl rfl rfl
  have I3 := I2.weakO (objs' := objs ++ [(it, isLit l 0), (s.heap.objs.size, isO (wrapO it))]) (by simp) (fun p hp => by
    rcases List.mem_append.mp hp with q | q
    · exact ⟨p, by simp [q], rfl, fun _ x => x⟩
    · simp only [List.mem_cons, List.not_mem_nil, or_false] at q
      rcases q with rfl | rfl
      · exact ⟨(it, isO (litO l)), by simp, rfl, fun o e => by rw [show o = _ from e]; exact ⟨rfl, rfl⟩⟩
      · exact ⟨_, by simp, rfl, fun _ x => x⟩)
  exact I3.perm (List.Perm.append_left _ (List.Perm.swap _ _ _))
/-- an iterator's next item, through its wrapper -/
theorem wrapNext {i j : Nat} {q it l : Addr} {k n : Nat} {ps : List VP} {P : VP} {Q : Value → Shared → Prop} (I : St g G O L m objs s) (hi : objs[i]? = some (l, isL ps)) (hj : objs[j]? = some (q, isO (wrapO it))) (hn : objs[n]? = some (it, isLit l k)) (hk : ps[k]? = some P)
    (h : ∀ v s', P v → St g G O L m (objs.set n (it, isLit l (k + 1))) s' → Q v s') : wpAny (model prog w) A (call (.ref q) []) Q E s := by
  obtain ⟨vs, nn, hl, hf⟩ := I.list hi
  obtain ⟨o, h1, h2⟩ := I.obj hj
  have h2' : o = _ := h2
  subst h2'
  obtain ⟨v, hv, hP⟩ := hf.get hk
  refine wrapItem h1 (I.obj hn) (isList_of hl) (by simpa using hv) fun h' hit hs => h v _ hP ?_
  exact I.upd hn hs hit rfl rfl rfl
/-- the wrapper of an iterator that is through -/
theorem wrapOut {i j : Nat} {q it l : Addr} {k : Nat} {ps : List VP} {Q : Value → Shared → Prop} (hh : A.handled = none) (I : St g G O L m (objs ++ [(it, isLit l k)]) s) (hi : objs[i]? = some (l, isL ps)) (hj : objs[j]? = some (q, isO (wrapO it))) (hk : ps.length ≤ k)
    (h : ∀ e t s', St g G O L m (objs ++ [(e, isO (stopO t))]) s' → E (.ref e) s') : wpAny (model prog w) A (call (.ref q) []) Q E s := by
  have I0 := I.cut rfl
  obtain ⟨vs, nn, hl, hf⟩ := I0.list hi
  obtain ⟨o, h1, h2⟩ := I0.obj hj
  have h2' : o = _ := h2
  subst h2'
  refine wrapEnd hh h1 (I.led _ last_mem).1 (isList_of hl) (by rw [List.getElem?_toArray, List.getElem?_eq_none]; rw [← hf.1]; exact hk) fun h' e t he hsz hx => h e t _ ?_
  have I1 := I.dropLast (p := (it, isLit l k)) hx (s' := { s with heap := h' }) rfl rfl rfl
  obtain ⟨f, hns, _⟩ := I.ns
  refine I1.add ⟨_, he, rfl⟩ (fun q => ?_) ?_ ?_
  · obtain ⟨p, hp, e1⟩ := List.mem_map.mp q
    obtain ⟨⟨o, e2, _⟩, _⟩ := I0.led p hp
    have := Heap.lt_size e2
    rw [e1] at this; exact absurd hsz (Nat.not_le.mpr this)
  · rintro rfl; exact absurd hsz (Nat.not_le.mpr hns.lt)
  · cases q : g.get? e with
    | none => rfl
    | some o => exact absurd hsz (Nat.not_le.mpr (Heap.lt_size (I.keep _ _ q)))
end
end Mine
end
-- MD3
section
open PySem PySem.W PyProof.Rows
set_option maxRecDepth 100000
set_option maxHeartbeats 4000000
namespace Mine
section
variable {prog : Program} {w : World} {A : Around} {E : Value → Shared → Prop} {s : Shared}
variable {g : Heap} {G : Array GenState} {O : OsState} {L : Addr} {m : List (Str × VP)} {objs : List (Addr × OP)} {env : Env} {names : List (Str × NameKind)} {cs : List (Str × Addr)}

theorem dsetD {i : Nat} {d : Addr} {ps : List (Int × VP)} {k : Int} {t : Tok} {v : Value} {P : VP} {Q : Unit → Shared → Prop} (I : St g G O L m objs s) (hi : objs[i]? = some (d, isD prog w ps)) (hk : k ∉ ps.map (·.1)) (hP : P v)
    (h : ∀ s', St g G O L m (objs.set i (d, isD prog w (ps ++ [(k, P)]))) s' → Q () s') (hz : ps.length ≤ 1000) : wpAny (model prog w) A (dictSet d (.int k t) v) Q E s := by
  obtain ⟨kvs, hd, h3, h4⟩ := I.dict hi
  have hl : kvs.length = ps.length := by have := congrArg List.length h3; simpa using this
  have hst : stored kvs k v = kvs ++ [(k, v)] := by
    unfold stored
    rw [if_neg]
    intro q
    obtain ⟨x, hx, e⟩ := List.any_eq_true.mp q
    apply hk
    rw [← h3, ← of_decide_eq_true e]
    exact List.mem_map_of_mem hx
  refine wpAny_dictSet_pairs (intKind_is prog w k t) hd (fun h' hd' hs => h _ ?_) (by rw [hl, sizeLine_eq]; omega)
  rw [hst] at hd'
  exact I.upd hi hs (isD_of hd' (by simp [h3]) (by simpa using h4.append (.one hP))) rfl rfl rfl

theorem compD {kx vx iter : Expr} {x : Str} {px : Pos} {ifs : List Expr} {scope : Scope} {pos : Pos} {cl : List (Str × Addr)} {Q : Value → Shared → Prop}
    {it : Addr} {src : List (Addr × OP)} {n : Nat} {P : Nat → VP} {J : Nat → List (Addr × OP)} (W : It prog w A it src n P J) (HE : EnvIs env L names cs)
    (Inv : Nat → List (Int × VP) → List (Addr × OP) → Prop) (h0 : Inv 0 [] objs) (hsrc : ∀ k qs objs', Inv k qs objs' → ∀ p ∈ src, p ∈ objs') (hlen : ∀ k qs objs', Inv k qs objs' → qs.length ≤ 1000) (I : St g G O L m (objs ++ J 0) s)
    (turn : ∀ k g' C cenv s' qs objs', (∀ b o, g.get? b = some o → g'.get? b = some o) → EnvIs cenv C (relN scope.names names) cl → k < n → Inv k qs objs' → St g' G O C [(x, P k)] objs' s' → ∀ E',
      wpAny (model prog w) A (forIn ifs true fun c r => if r = true then do let ok ← isTrue c cenv (eval c cenv); pure (ForInStep.yield ok) else pure (ForInStep.yield r)) (fun ok s₂ => if ok = true then
        wpAny (model prog w) A (eval kx cenv) (fun kv s₃ => wpAny (model prog w) A (eval vx cenv) (fun v s₄ => ∃ m'' objs'' i t PV, kv = .int i t ∧ PV v ∧ i ∉ qs.map (·.1) ∧ Inv (k + 1) (qs ++ [(i, PV)]) objs'' ∧ St g' G O C m'' objs'' s₄) E' s₃) E' s₂
        else ∃ m'' objs'', Inv (k + 1) qs objs'' ∧ St g' G O C m'' objs'' s₂) E' s')
    (fin : ∀ a qs objs' s', Inv n qs objs' → St g G O L m (objs' ++ [(a, isD prog w qs)]) s' → Q (.ref a) s')
    (hcell : (scope.names.all fun y => y.2 != .cell) = true := by rfl) (hk : scope.kind = .function := by rfl) (hx : (relN scope.names names).lookup x = some .local := by rfl) :
    wpAny (model prog w) A newDict (fun acc s₃ => wpAny (model prog w) A (newFunctionEnv scope env.globals cl [] env.qual none .none (some env)) (fun cenv s₄ =>
      codeAny (model prog w) A (.compStart (.DictComp kx vx [⟨.Name x px, iter, ifs, 0⟩] scope pos) 0 (.ref it) acc { cenv with scope := relabel scope env }) (compPost (model prog w) A E none Q acc cenv.locals) s₄) E s₃) E s := by
  refine wpAny_newObj_type ?_
  generalize hD : s.heap.objs.size = D
  generalize hs3 : ({ s with heap := s.heap.push { cls := .type "dict", data := .dict #[] } } : Shared) = s3
  have I3 : St g G O L m ((objs ++ J 0) ++ [(D, isD prog w [])]) s3 := by
    rw [← hD, ← hs3]
    exact I.push rfl ⟨[], ⟨#[], 0, ⟨rfl, rfl, rfl⟩, rfl, fun e he => by simp at he, .nil, .nil⟩, rfl, .nil⟩ rfl rfl rfl
  have I3' : St g G O L m ((objs ++ [(D, isD prog w [])]) ++ J 0) s3 := I3.perm (by
    rw [List.append_assoc, List.append_assoc]
    exact List.Perm.append_left _ (List.perm_append_comm ..))
  clear I3
  refine wpAny_newFunctionEnv (fun y hy => by simpa using List.all_eq_true.mp hcell y hy) (fun y hy => (nomatch hy)) (fun h' hns hsb => ?_) hk
  have hkeep : ∀ b o, s3.heap.get? b = some o → h'.get? b = some o := fun b o e => (hsb.2 b (Nat.ne_of_lt (Heap.lt_size e))).trans (Heap.get?_push_of_some _ e)
  generalize hC : s3.heap.objs.size = C at *
  have I4 : St (under s3 ((objs ++ [(D, isD prog w [])]) ++ J 0)) G O C [] ((objs ++ [(D, isD prog w [])]) ++ J 0) { s3 with heap := h', toks := s3.toks + ([] : List (Str × Value)).length } :=
    I3'.enter hns (fun x P hx => by cases hx) hkeep (Nat.le_of_eq hC) rfl rfl
  have hstay := I3'.stays
  have hleave : ∀ {L' : Addr} {m' : List (Str × VP)} {objs' : List (Addr × OP)} {s' : Shared}, St (under s3 ((objs ++ [(D, isD prog w [])]) ++ J 0)) G O L' m' objs' s' → St g G O L m objs' s' := fun I' => I3'.leave I'
  have hCL : C ≠ L := by
    obtain ⟨f, hf, _⟩ := I3'.ns
    exact Nat.ne_of_gt (hC ▸ hf.lt)
  have hCg : g.get? C = none := by
    cases q : g.get? C with
    | none => rfl
    | some o => exact absurd (Heap.lt_size (I3'.keep _ _ q)) (by rw [hC]; exact Nat.lt_irrefl _)
  generalize hg1 : under s3 ((objs ++ [(D, isD prog w [])]) ++ J 0) = g1 at *
  generalize hs4 : ({ s3 with heap := h', toks := s3.toks + ([] : List (Str × Value)).length } : Shared) = s4 at *
  have HC : EnvIs { (newEnv scope C env.globals cl env.qual none .none (some env) builtinsNs) with scope := relabel scope env } C (relN scope.names names) cl :=
    ⟨hk, relN_eq HE, rfl, HE.globals, HE.builtins, rfl⟩
  have loop : ∀ cenv, EnvIs cenv C (relN scope.names names) cl → codeAny (model prog w) A (.compLoop (.DictComp kx vx [⟨.Name x px, iter, ifs, 0⟩] scope pos) 0 (.ref it) (.ref D) cenv) (compPost (model prog w) A E none Q (.ref D) C) s4 := by
    intro cenv HC
    refine codeAny_compLoop_testsD (I := fun k' s => ∃ k qs objs' m', k' = n - k ∧ k ≤ n ∧ Inv k qs objs' ∧ St g1 G O C m' ((objs' ++ [(D, isD prog w qs)]) ++ J k) s) ?_ n ⟨0, [], objs, [], rfl, Nat.zero_le _, h0, I4⟩
    rintro k' s5 ⟨k, qs, objs1, m1, rfl, hkn, hI, I5⟩
    by_cases hlt : k < n
    · refine W.next k hlt (fun p hp => List.mem_append_left _ (hsrc _ _ _ hI p hp)) I5 fun v s6 hv I6 => ?_
      refine wpAny_assign_Name (sto HC I6 hv (fun s7 I7 => ?_) hx)
      rw [List.append_assoc] at I7
      obtain ⟨g2, I8, hg2, back⟩ := I7.out
      have I9 := I8.loc (m' := [(x, P k)]) ⟨⟨P k, by simp [List.lookup_cons], fun _ x => x⟩, trivial⟩
      refine wpAny_mono (turn k g2 C cenv s7 qs objs1 (fun b o e => hg2 b o (hstay b o e)) HC hlt hI I9 _) (fun ok s8 h8 => ?_) fun _ _ x => x
      cases ok with
      | false =>
        rw [if_neg Bool.false_ne_true] at h8 ⊢
        obtain ⟨m2, objs2, hI2, I10⟩ := h8
        refine ⟨n - (k + 1), by omega, k + 1, qs, objs2, m2, rfl, hlt, hI2, ?_⟩
        have := back _ _ _ I10
        rwa [← List.append_assoc] at this
      | true =>
        rw [if_pos rfl] at h8 ⊢
        refine wpAny_mono h8 (fun kv s9 h9 => wpAny_mono h9 (fun v2 s9 ⟨m2, objs2, i, t, PV, hkv, hPV, hni, hI2, I10⟩ => ?_) fun _ _ x => x) fun _ _ x => x
        subst hkv
        have I11 := back _ _ _ I10
        have hz := hlen _ _ _ hI
        refine dsetD (i := objs2.length) (ps := qs) I11 (by simp) hni hPV (fun s10 I12 => ?_) hz
        refine ⟨n - (k + 1), by omega, k + 1, qs ++ [(i, PV)], objs2, m2, rfl, hlt, hI2, ?_⟩
        have e : (objs2 ++ ([(D, isD prog w qs)] ++ J (k + 1))).set objs2.length (D, isD prog w (qs ++ [(i, PV)])) = (objs2 ++ [(D, isD prog w (qs ++ [(i, PV)]))]) ++ J (k + 1) := by simp
        rwa [e] at I12
    · obtain rfl : k = n := by omega
      refine W.done (fun p hp => List.mem_append_left _ (hsrc _ _ _ hI p hp)) I5 fun s6 I6 => ?_
      obtain ⟨f, hf, _⟩ := I6.ns
      have hCo : C ∉ (objs1 ++ [(D, isD prog w qs)]).map (·.1) := fun q => by
        obtain ⟨p, hp, e⟩ := List.mem_map.mp q
        exact (I6.led p hp).2.1 e
      have I7 := hleave I6
      exact ⟨f, hf, fun h'' hs => fin D qs objs1 _ hI (I7.ign (fun b o hb e => (hs.2 b hb).trans e) hCo hCL hCg rfl rfl rfl)⟩
  exact codeAny_compStart_dict (loop _ HC) (W.self 0 I4 (loop _ HC))

theorem dcomp {kx vx iter : Expr} {x : Str} {px : Pos} {ifs : List Expr} {scope : Scope} {pos : Pos} {cl : List (Str × Addr)} {Q : Value → Shared → Prop} (HE : EnvIs env L names cs) (hcl : closL cs scope.names [] = some cl)
    (h : wpAny (model prog w) A (eval iter env) (fun xv s₁ => wpAny (model prog w) A (pyIter xv) (fun it s₂ => wpAny (model prog w) A newDict (fun acc s₃ =>
      wpAny (model prog w) A (newFunctionEnv scope env.globals cl [] env.qual none .none (some env)) (fun cenv s₄ =>
        codeAny (model prog w) A (.compStart (.DictComp kx vx [⟨.Name x px, iter, ifs, 0⟩] scope pos) 0 it acc { cenv with scope := relabel scope env }) (compPost (model prog w) A E none Q acc cenv.locals) s₄) E s₃) E s₂) E s₁) E s)
    (hs : ∀ x, foldedSetIterable iter env x = pure x := by intro _; rfl) (hk : scope.kind = .function := by rfl) (hn : (scope.names.all fun x => x.2 != .local || scope.names.lookup x.1 == some .local) = true := by rfl) :
    wpAny (model prog w) A (eval (.DictComp kx vx [⟨.Name x px, iter, ifs, 0⟩] scope pos) env) Q E s := by
  rw [arm_eval_DictComp]
  refine wpAny_comprehension_free (use := none) rfl hs (closure_eq HE hcl) hk (fun y hy e => ?_) h
  have := List.all_eq_true.mp hn y hy
  rw [e] at this
  simpa using this

theorem unpackSw2 {x1 x2 : Str} {i : Nat} {T : Addr} {P1 P2 : VP} {Q : Unit → Shared → Prop} (hh : A.handled = none) (HE : EnvIs env L names cs) (I : St g G O L m objs s) (hi : objs[i]? = some (T, isT [P1, P2]))
    (h : ∀ s', St g G O L ((x1, P1) :: (x2, P2) :: m) objs s' → Q () s') (h1 : names.lookup x1 = some .local := by rfl) (h2 : names.lookup x2 = some .local := by rfl) :
    wpAny (model prog w) A (unpackItems (.ref T) 2 none) (fun items s₂ => wpAny (model prog w) A (assignInOrder ([x1, x2].reverse.map fun n => bindName env n) items.reverse) Q E s₂) E s := by
  obtain ⟨v1, v2, hT, p1, p2⟩ := I.tup2 hi
  rw [show (2 : Nat) = (#[v1, v2] : Array Value).size from rfl]
  refine wpAny_unpackItems_tuple hh hT fun h' hs => ?_
  have I1 : St g G O L m objs { s with heap := h' } := I.kept (fun b o e => hs b o (Nat.ne_of_lt (Heap.lt_size e)) e) rfl rfl
  have e1 : ([x1, x2].reverse.map fun n => bindName env n) = [bindName env x2, bindName env x1] := by simp
  have e2 : (#[v1, v2] : Array Value).toList.reverse = [v2, v1] := by simp
  rw [e1, e2]
  refine wpAny_assignInOrder_more (wpAny_bindName (sto HE I1 p2 (fun s2 I2 => ?_) h2))
  refine wpAny_assignInOrder_more (wpAny_bindName (sto HE I2 p1 (fun s3 I3 => ?_) h1))
  exact wpAny_pure (h _ I3)

/-- call of a def with cells, the caller's frame in the ledger -/
theorem call_fnCF {f : Addr} {fd : FuncData} {o : Obj} {body : List Stmt} {args : List Value} {bs : List (Str × Value)} {m' : List (Str × VP)} {Q : Value → Shared → Prop}
    (I : St g G O L m objs s) (hW : W w g) (hroom : A.depth < recursionLimit)
    (ho : (KF w).lookup f = some o) (hdata : o.data = .func fd) (hbody : fd.body = .stmts body) (hcd : codeIn (KF w) fd.code fd.qualname = true)
    (hbind : bindArgs fd ⟨args, []⟩ = pure bs) (hclo : fd.closure = [])
    (hkind : (bs.all fun y => fd.scope.names.lookup y.1 == some .local || fd.scope.names.lookup y.1 == some .cell) = true)
    (hnd : ((cellsFrom 0 fd.scope.names []).map (·.1)).Nodup)
    (hm : CovF (bindL (fun n => fd.scope.names.lookup n) bs fun _ => none) m')
    (h : ∀ g' L' s' env es ep, EnvIs env L' fd.scope.names (cellsFrom (L' + 1) fd.scope.names []) → env.frame = some L' → W w g' → St g' G O L' m' ((objs ++ [(L, isFrm (.dict es ep))]) ++ cellLed fd.scope.names bs (cellsFrom (L' + 1) fd.scope.names [])) s' → ∀ E',
      wpAny (model prog w) (A.deeper env) (execs body env) (fun fl s₂ => ∃ m₂ objs₂, St g' G O L' m₂ (objs₂ ++ [(L, isFrm (.dict es ep))]) s₂ ∧ (St g G O L m objs₂ s₂ → Q (flowVal fl) s₂)) E' s')
    (hco : fd.scope.isCoroutine = false := by rfl) (hgen : fd.scope.isGenerator = false := by rfl) (hk : fd.scope.kind = .function := by rfl)
    (hgl : fd.globals = mainGlobals := by rfl) (hbl : fd.builtins = builtinsNs := by rfl) :
    wpAny (model prog w) A (call (.ref f) args) Q E s := by
  have hWs : W w s.heap := hW.keeps I.keep
  obtain ⟨es, ep, hfr, back⟩ := I.frame
  refine wpAny_call (codeAny_call_cells hroom (hWs.k _ _ ho) hdata hWs.lim (codeRec_of hWs.k hcd) hbody hbind hclo (kindsX hkind _) (fun s₁ X => ?_) hco hgen hk)
  have hsame := X.toInCall.same
  have hns := X.toInCall.ns
  have hk₀ := X.toInCall.keep
  have hkind2 : (callEnvC fd s.heap.objs.size f).kindOf = fun n => fd.scope.names.lookup n := rfl
  have hloc : (callEnvC fd s.heap.objs.size f).locals = s.heap.objs.size := rfl
  have hcells : (callEnvC fd s.heap.objs.size f).cells = cellsFrom (s.heap.objs.size + 1) fd.scope.names [] := rfl
  rw [hloc, hkind2] at hns
  obtain ⟨h1, tk, hs1⟩ := hsame
  have I' : St (underF s L objs) G O s.heap.objs.size m' (objs ++ [(L, isFrm (.dict es ep))]) s₁ := I.enterF hfr hns hm.get hk₀ (Nat.le_refl _) (by rw [hs1]) (by rw [hs1])
  have hcell := X.cell
  have habove := X.above
  have hapart := X.apart
  rw [hcells, hkind2] at hcell
  rw [hcells] at hapart
  rw [hcells, hloc] at habove
  have hfull : St (underF s L objs) G O s.heap.objs.size m' ((objs ++ [(L, isFrm (.dict es ep))]) ++ cellLed fd.scope.names bs (cellsFrom (s.heap.objs.size + 1) fd.scope.names [])) s₁ := by
    have hfst : (cellLed fd.scope.names bs (cellsFrom (s.heap.objs.size + 1) fd.scope.names [])).map (·.1) = (cellsFrom (s.heap.objs.size + 1) fd.scope.names []).map (·.2) := by
      unfold cellLed; rw [List.map_map]; rfl
    have hlk : ∀ x ∈ cellsFrom (s.heap.objs.size + 1) fd.scope.names [], (cellsFrom (s.heap.objs.size + 1) fd.scope.names []).lookup x.1 = some x.2 := by
      have hnames : ∀ n n' (l : List (Str × NameKind)) (a a' : List (Str × Addr)), a.map (·.1) = a'.map (·.1) → (cellsFrom n l a).map (·.1) = (cellsFrom n' l a').map (·.1) := by
        intro n n' l
        induction l generalizing n n' with
        | nil => intro a a' e; exact e
        | cons y r ih =>
          intro a a' e
          unfold cellsFrom
          split
          · exact ih _ _ _ _ (by simp [e])
          · exact ih _ _ _ _ e
      have nd : ((cellsFrom (s.heap.objs.size + 1) fd.scope.names []).map (·.1)).Nodup := by rw [hnames _ 0 _ [] [] rfl]; exact hnd
      have gen : ∀ (l : List (Str × Addr)), (l.map (·.1)).Nodup → ∀ x ∈ l, l.lookup x.1 = some x.2 := by
        intro l
        induction l with
        | nil => intro _ x hx; cases hx
        | cons y r ih =>
          intro hn x hx
          rw [List.map_cons, List.nodup_cons] at hn
          rcases List.mem_cons.mp hx with rfl | hx
          · rw [List.lookup_cons, beq_self_eq_true]
          · have : (x.1 == y.1) = false := by
              simp only [beq_eq_false_iff_ne, ne_eq]
              intro e
              exact hn.1 (e ▸ List.mem_map_of_mem hx)
            rw [List.lookup_cons, this]
            exact ih hn.2 x hx
      exact gen _ nd
    have hold : ∀ p ∈ objs ++ [(L, isFrm (.dict es ep))], ∃ o, s.heap.get? p.1 = some o := fun p hp => by
      rcases List.mem_append.mp hp with q | q
      · obtain ⟨⟨o, e, _⟩, _⟩ := I.led p q; exact ⟨o, e⟩
      · obtain ⟨o, e, _⟩ := hfr; rw [List.mem_singleton.mp q]; exact ⟨o, e⟩
    refine ⟨I'.ns, I'.keep, I'.newL, fun p hp => ?_, ?_, I'.gens, I'.os⟩
    · rcases List.mem_append.mp hp with hp | hp
      · exact I'.led p hp
      · obtain ⟨x, hx, rfl⟩ := List.mem_map.mp hp
        obtain ⟨o, e1, e2⟩ := hcell x.1 x.2 (hlk x hx)
        refine ⟨⟨o, e1, ?_⟩, Nat.ne_of_gt (habove x.1 x.2 hx), ?_⟩
        · cases q : bindC (fun n => fd.scope.names.lookup n) bs (fun _ => none) x.1 with
          | none => rw [q] at e2; exact ⟨_, e2⟩
          | some v => rw [q] at e2; exact ⟨v, e2, rfl⟩
        · cases q : (underF s L objs).get? x.2 with
          | none => rfl
          | some o => exact absurd (Heap.lt_size (of_hideAll _ q)) (Nat.not_lt.mpr (Nat.le_of_lt (habove x.1 x.2 hx)))
    · rw [List.map_append, hfst]
      refine List.nodup_append.mpr ⟨I'.nd, ?_, fun a ha b hb e => ?_⟩
      · exact List.pairwise_map.mpr hapart
      · subst e
        obtain ⟨p, hp, e1⟩ := List.mem_map.mp ha
        obtain ⟨x, hx, e2⟩ := List.mem_map.mp hb
        obtain ⟨o, h1⟩ := hold p hp
        have := Heap.lt_size h1
        rw [e1, ← e2] at this
        exact absurd this (Nat.not_lt.mpr (Nat.le_of_lt (habove x.1 x.2 hx)))
  refine wpAny_mono (h _ _ _ _ es ep ⟨hk, rfl, rfl, hgl, hbl, rfl⟩ rfl (hW.keeps I.staysF) hfull _) (fun fl s₂ ⟨m₂, objs₂, e1, e2⟩ => ?_) fun _ _ x => x
  have := e2 (I.leaveF back e1)
  cases fl <;> exact this
end
end Mine
end
-- MX1
section
open PySem PySem.W PyProof.Rows
set_option maxRecDepth 100000
set_option maxHeartbeats 4000000
namespace Mine
open Builtin
/-- what hex writes -/
noncomputable def hexA (b : Array UInt8) : Array Nat := b.toList.zipIdx.foldl (fun (out : Array Nat) (c, i) => (out.push (Bytes.hexDigit (c.toNat / 16))).push (Bytes.hexDigit (c.toNat % 16))) #[]
theorem gives_hex (b : Array UInt8) (t : Tok) : Gives (Builtin.«bytes.hex» ⟨[.bytes b t], []⟩) (.str ⟨hexA b⟩) := .of_eq rfl
theorem slot_upper : Slot "bytes" "upper" "bytes.upper" :=
  .of (owner := "bytes") (n := "upper") (by rw [typeLookup_type, builtinLookup_eq_fast]; kernel_rfl) (by decide +kernel) (by decide +kernel) (by decide +kernel)
    (by first | exact .inl (by decide +kernel) | exact .inr (by decide +kernel)) (by rw [isSubtype_type]; kernel_rfl)
theorem type_upper : typeOf (.builtin "bytes.upper") = pure (.type "method_descriptor") := by show builtinType _ = _; rw [builtinType_eq_fast]; kernel_rfl
theorem entry_upper : entryFor table "bytes.upper" = some Builtin.«bytes.upper» := entryFor_of_tree (by kernel_rfl)
theorem args_upper_1 (a : Value) : argsOk "bytes.upper" ⟨[a], []⟩ := by
  unfold argsOk; rw [signature?_of (id := "bytes.upper") (n := ['r', 'e', 'p', 'p', 'u']) (o := ['s', 'e', 't', 'y', 'b']) (by kernel_rfl) FB.owner_bytes]; kernel_rfl
theorem gives_upper (b : Array UInt8) (t : Tok) : Gives (Builtin.«bytes.upper» ⟨[.bytes b t], []⟩) (.bytes ((b.toList.map Bytes.toUpper).toArray)) := .of_eq rfl
end Mine
end
-- MX2
section
open PySem PySem.W PyProof.Rows
set_option maxRecDepth 100000
set_option maxHeartbeats 4000000
namespace Mine
open Builtin
noncomputable def asc (x : Str) : Array UInt8 := x.cps.map fun c => c.toUInt8
theorem two_turns {M : Model} {A : Around} {E : Value → Shared → Prop} {s : Shared} {σ α : Type} {Q : α → Shared → Prop} {l : List Nat} {a b : Nat} {init s1 : σ} {F : Nat → σ → Sem (ForInStep σ)} {K : σ → Sem α}
    (h1 : ∀ Q' : ForInStep σ → Shared → Prop, Q' (.yield s1) s → wpAny M A (F a init) Q' E s) (h2 : ∀ Q' : ForInStep σ → Shared → Prop, Q' (.done s1) s → wpAny M A (F b s1) Q' E s) (h : wpAny M A (K s1) Q E s) :
    wpAny M A (forIn (a :: b :: l) init F >>= K) Q E s := by
  rw [List.forIn_cons]
  refine wpAny_bind (wpAny_bind (h1 _ ?_))
  dsimp only
  rw [List.forIn_cons]
  refine wpAny_bind (h2 _ ?_)
  exact wpAny_pure h
theorem enc_ascii {M : Model} {A : Around} {E : Value → Shared → Prop} {s : Shared} {Q : Array UInt8 → Shared → Prop} (x : Str) (self : Value) (hx : ∀ c ∈ x.cps, c < 128) (h16 : x.length = 16) (h : Q (asc x) s) :
   wpAny M A (_codecs.encodeNarrow "str.encode" _codecs.asciiCodec none self x) Q E s := by
  have hsz : x.cps.size = 16 := h16
  have hfi : Array.findIdx? _codecs.asciiCodec.bad (x.cps.extract 0 x.cps.size) = none := by
    rw [Array.findIdx?_eq_none_iff]
    intro c hc
    have : c ∈ x.cps := by simpa using hc
    have := hx c this
    show decide (c ≥ 128) = false
    simp; exact this
  have hx0 : x.cps[0]? = some x.cps[0] := by simp [hsz]
  have hb0 : _codecs.asciiCodec.bad x.cps[0] = false := by
    have := hx x.cps[0] (by simp)
    show decide (x.cps[0] ≥ 128) = false
    simp; exact this
  have hx16 : x.cps[16]? = none := by simp [hsz]
  have hout : Array.foldl (fun acc y => acc ++ (_codecs.asciiCodec.bytesOf y).toArray) #[] ((x.cps.extract 0 x.cps.size).extract 0 16) = asc x := by
    have e : (x.cps.extract 0 x.cps.size).extract 0 16 = x.cps := by rw [← hsz]; simp
    rw [e]
    have key : ∀ (l : List Nat) (acc : Array UInt8), l.foldl (fun acc y => acc ++ (_codecs.asciiCodec.bytesOf y).toArray) acc = acc ++ (l.map fun c => c.toUInt8).toArray := by
      intro l
      induction l with
      | nil => intro acc; simp
      | cons c r ih => intro acc; rw [List.foldl_cons, ih]; show (acc ++ #[c.toUInt8]) ++ _ = _; rw [Array.append_assoc]; simp
    rw [← Array.foldl_toList, key]
    unfold asc
    apply Array.ext'
    simp
  unfold _codecs.encodeNarrow
  simp only [h16]
  simp only [Std.Legacy.Range.forIn_eq_forIn_range', Std.Legacy.Range.size]
  rw [show List.range' ([0:16] : Std.Legacy.Range).start ((([0:16] : Std.Legacy.Range).stop - ([0:16] : Std.Legacy.Range).start + ([0:16] : Std.Legacy.Range).step - 1) / ([0:16] : Std.Legacy.Range).step) ([0:16] : Std.Legacy.Range).step = [0,1,2,3,4,5,6,7,8,9,10,11,12,13,14,15] from by decide]
  refine two_turns (s1 := (16, asc x, ({} : _codecs.Faults))) (fun Q' hQ' => ?_) (fun Q' hQ' => ?_) (wpAny_pure h)
  · dsimp only
    rw [if_neg (by decide)]
    simp only [hx0, hb0, hfi, Bool.not_false, if_true, Option.getD_none]
    refine wpAny_pure ?_
    have e1 : 0 + (x.cps.extract 0 x.cps.size).size = 16 := by simp [hsz]
    have e2 : (x.cps.extract 0 x.cps.size).size = 16 := by simp [hsz]
    rw [e1, e2, hout]
    exact hQ'
  · dsimp only
    rw [if_neg (by rw [sizeLine_eq]; unfold asc; simp [hsz])]
    simp only [hx16]
    exact wpAny_pure hQ'
theorem args_enc (a b : Value) : argsOk "str.encode" ⟨[a, b], []⟩ := F.args_str_encode_2 a b
theorem road_ascii (self : Value) (x : Str) : _codecs.encodeRoad "str.encode" self x (Str.ofString "ascii") none = (do mkBytes (← _codecs.encodeNarrow "str.encode" _codecs.asciiCodec none self x)) := by
  have e : (_codecs.normalName (Str.ofString "ascii")).toString = "ascii" := by decide +kernel
  unfold _codecs.encodeRoad
  rw [e]
  first | rfl | simp
theorem arg_ascii (u : Tok) : Str.codecArg "str.encode" "encode" "'encoding'" (some (.str (Str.ofString "ascii") u)) = pure (some (Str.ofString "ascii")) := by kernel_rfl
theorem gives_enc (x : Str) (t u : Tok) (hx : ∀ c ∈ x.cps, c < 128) (h16 : x.length = 16) : Gives (Builtin.«str.encode» ⟨[.str x t, .str (Str.ofString "ascii") u], []⟩) (.bytes (asc x)) := by
  refine .of_wp fun M A E s Q hq => ?_
  unfold «str.encode»
  refine wpAny_bind (wpAny_of_eq (a := (.str x t, x, [.str (Str.ofString "ascii") u])) rfl ?_)
  refine wpAny_bind (wpAny_of_eq (a := [some (.str (Str.ofString "ascii") u), none]) rfl ?_)
  refine wpAny_bind (wpAny_of_eq (arg_ascii u) ?_)
  refine wpAny_bind (wpAny_of_eq (a := none) rfl ?_)
  show wpAny M A (_codecs.encodeRoad "str.encode" (.str x t) x (Str.ofString "ascii") none >>= _) _ E s
  rw [road_ascii]
  refine wpAny_bind (wpAny_bind (enc_ascii x _ hx h16 (wpAny_mkBytes (wpAny_pure ⟨_, rfl, hq.2⟩) hq.1)))
end Mine
end
-- MG5
section
open PySem PySem.W PyProof.Rows
set_option maxRecDepth 100000
set_option maxHeartbeats 4000000
namespace Mine

theorem ty_list_clear : typeOf (.builtin "list.clear") = pure (.type "method_descriptor") := by with_unfolding_all rfl

noncomputable def setK (ns : List NI) (k : Int) (np : Int) : List NI := ns.map fun n => if n.key = k then { n with np := np } else n
theorem setK_keys (ns : List NI) (k np : Int) : keysN (setK ns k np) = keysN ns := by
  unfold setK keysN
  rw [List.map_map]
  apply List.map_congr_left
  intro n _
  simp only [Function.comp]
  split <;> rfl
theorem set_setK {ns : List NI} {i : Nat} {n : NI} {np : Int} (hn : (keysN ns).Nodup) (hi : ns[i]? = some n) : ns.set i { n with np := np } = setK ns n.key np := by
  apply List.ext_getElem?
  intro j
  unfold setK
  rw [List.getElem?_set, List.getElem?_map]
  by_cases e : i = j
  · subst e
    rw [if_pos rfl, if_pos (List.getElem?_eq_some_iff.mp hi).1, hi]
    simp
  · rw [if_neg e]
    cases hj : ns[j]? with
    | none => rfl
    | some n' =>
      have : n'.key ≠ n.key := by
        intro q
        have h1 : (keysN ns)[i]? = some n.key := by unfold keysN; rw [List.getElem?_map, hi]; rfl
        have h2 : (keysN ns)[j]? = some n.key := by unfold keysN; rw [List.getElem?_map, hj]; simp [q]
        exact e ((List.getElem?_inj (List.getElem?_eq_some_iff.mp h1).1 hn).mp (h1.trans h2.symm))
      simp [this]
theorem setK_length (ns : List NI) (k np : Int) : (setK ns k np).length = ns.length := by unfold setK; simp
theorem node_of_key {ns : List NI} {k : Int} (h : k ∈ keysN ns) : ∃ (i : Nat) (n : NI), ns[i]? = some n ∧ n.key = k ∧ (k, vref n.na) ∈ nodeD ns := by
  obtain ⟨n, hn, rfl⟩ := List.mem_map.mp h
  obtain ⟨i, hi⟩ := List.mem_iff_getElem?.mp hn
  exact ⟨i, n, hi, rfl, List.mem_map.mpr ⟨n, hn, rfl⟩⟩
/-- several at once -/
noncomputable def setKs (ns : List NI) (ks : List Int) (np : Int) : List NI := ks.foldl (fun ns k => setK ns k np) ns
theorem setKs_snoc (ns : List NI) (ks : List Int) (k np : Int) : setKs ns (ks ++ [k]) np = setK (setKs ns ks np) k np := by unfold setKs; rw [List.foldl_append]; rfl
theorem setKs_keys (ns : List NI) (ks : List Int) (np : Int) : keysN (setKs ns ks np) = keysN ns := by
  unfold setKs
  induction ks generalizing ns with
  | nil => rfl
  | cons k r ih => rw [List.foldl_cons, ih, setK_keys]

section
variable {prog : Program} {w : World} {A : Around} {E : Value → Shared → Prop} {s : Shared}
variable {g : Heap} {G : Array GenState} {O : OsState} {L : Addr} {m : List (Str × VP)} {objs : List (Addr × OP)}

theorem meets_bool_new_list (l : Addr) (items : Array Value) (hfit : (items.size : Int) < 2 ^ 63) : Meets (Builtin.«bool.__new__» ⟨[.type "bool", .ref l], []⟩) (fun _ R s => s.heap.IsList l items ∧ R (.ok (.ret (.bool (!items.isEmpty)))) { s with toks := s.toks + 1 + 1 }) :=
  Meets.of_wp fun prog w A R s ⟨hl, hs⟩ => by
    obtain ⟨hp, g, d, tk, os⟩ := s
    have f1 := F.conv_sub_bool
    repeat (any_goals (first | assumption | (with_reducible refine wpAny_truthy_list hl hfit ?_) | wp_step))
    all_goals first | exact ⟨_, rfl, hs⟩ | exact hs | skip
theorem boolL {i : Nat} {l : Addr} {ps : List VP} {Q : Value → Shared → Prop} (I : St g G O L m objs s) (hi : objs[i]? = some (l, isL ps)) (h : ∀ s', St g G O L m objs s' → Q (.bool (!ps.isEmpty)) s') (hz : ps.length < 2 ^ 63 := by omega) :
    wpAny (model prog w) A (call (.type "bool") [.ref l]) Q E s := by
  obtain ⟨vs, n, hl, hf⟩ := I.list hi
  have : (!vs.toArray.isEmpty) = !ps.isEmpty := by
    have := hf.1
    cases ps <;> cases vs <;> simp_all
  refine call_bool_1 (meets_bool_new_list l vs.toArray (by rw [List.size_toArray, ← hf.1]; omega)) ⟨isList_of hl, ?_⟩
  rw [this]
  exact ⟨rfl, h _ (I.tk _)⟩
theorem tupL {i : Nat} {l : Addr} {ps : List VP} {Q : Value → Shared → Prop} (I : St g G O L m objs s) (hi : objs[i]? = some (l, isL ps)) (h : ∀ a s', St g G O L m (objs ++ [(a, isT ps)]) s' → Q (.ref a) s') (hz : ps.length ≤ 1000) :
    wpAny (model prog w) A (call (.type "tuple") [.ref l]) Q E s := by
  obtain ⟨vs, n, hl, hf⟩ := I.list hi
  refine call_tuple_list (isList_of hl) (fun h' hk => ?_) (by rw [List.size_toArray, ← hf.1, sizeLine_eq]; omega)
  exact h _ _ ((I.kept (s' := { s with heap := h' }) hk rfl rfl).push (o := tupO vs 0) rfl ⟨vs, 0, rfl, hf⟩ rfl rfl rfl)
theorem clearM {pos : Pos} {i : Nat} {l : Addr} {ps : List VP} {Q : Value → Shared → Prop} (I : St g G O L m objs s) (hi : objs[i]? = some (l, isL ps)) (hz : ps.length ≤ 1000) (h : ∀ s', St g G O L m (objs.set i (l, isL [])) s' → Q .none s') :
    MethodOn prog w A "clear" pos (.ref l) [] Q E s := by
  obtain ⟨vs, n, hl, hf⟩ := I.list hi
  exact methL (M := model prog w) I hi F.slot_list_clear ty_list_clear (P.clear_list hl (h _ (I.updList hi hl .nil rfl rfl rfl)) (by rw [List.size_toArray, ← hf.1, sizeLine_eq]; omega))

theorem active_call {x dx nd ry : Addr} {ns : List NI} {rs : List Int} {a b : Int} {Q : Value → Shared → Prop} (I : St g G O L m (tsO prog w x dx nd (as0 nd (vref ry) a b) ns ++ [(ry, isLI rs)]) s) (hW : W w g) (hroom : A.depth < 870) (hz : rs.length ≤ 900)
    (h : ∀ s', St g G O L m (tsO prog w x dx nd (as0 nd (vref ry) a b) ns ++ [(ry, isLI rs)]) s' → Q (.bool (decide (b < a) || !rs.isEmpty)) s') :
    wpAny (model prog w) A (call (.ref 229) [.ref x]) Q E s := by
  refine call_fn (bs := [("self", .ref x)]) I hW (by unfold recursionLimit; omega) rfl rfl rfl rfl (BindsTo.of_eq rfl) rfl rfl ?_
  intro g' L' s' env HE hW' I' E'
  refine post_gen fun Q0 hQ0 => ?_
  dsimp only at HE
  have I2 := I'.loc (m' := [("self", vref x)]) ⟨⟨_, rfl, fun _ x => x⟩, trivial⟩
  clear I'
  refine wpAny_execs_cons ?_
  refine wpAny_mono (Q := fun fl s5 => fl = .next ∧ St g' G O L' [nm "self" (vref x)] (tsO prog w x dx nd (as0 nd (vref ry) a b) ns ++ [(ry, isLI rs)]) s5) ?ifA ?ifB fun _ _ x => x
  case ifA =>
    refine wpAny_If ?_
    refine wpAny_isTrue_Compare1 ?_; refine Attribute_any_ ?_; refine ldV (by assumption) (by assumption) (by rfl) ?_
    refine getA I2 hW' (i := 0) (j := 1) rfl rfl (by rfl) (by rfl) (by rfl) (P := vref ry) rfl handed_ref ?_
    rintro _ s3 rfl I3
    refine wpAny_Constant_none ?_; refine wpAny_is_plain rfl (wpAny_truthy_bool ?_); rw [if_neg (show ¬ ((Value.ref _ == Value.none) = true) from Bool.false_ne_true)]
    exact wpAny_execs_nil ⟨rfl, I3⟩
  rintro fl s3 ⟨rfl, I3⟩
  refine wpAny_execs_cons ?_; refine wpAny_Return_some ?_
  refine BoolOp_or ?_
  refine wpAny_Compare1 ?_; refine Attribute_any_ ?_; refine ldV (by assumption) (by assumption) (by rfl) ?_
  refine getA I3 hW' (i := 0) (j := 1) rfl rfl (by rfl) (by rfl) (by rfl) (P := isI b) rfl handed_int ?_
  rintro _ s4 ⟨t4, rfl⟩ I4
  refine Attribute_any_ ?_; refine ldV (by assumption) (by assumption) (by rfl) ?_
  refine getA I4 hW' (i := 0) (j := 1) rfl rfl (by rfl) (by rfl) (by rfl) (P := isI a) rfl handed_int ?_
  rintro _ s5 ⟨t5, rfl⟩ I5
  refine lt_int (wpAny_truthy_bool ?_)
  by_cases hc : b < a
  · rw [decide_eq_true hc, if_pos rfl]
    rw [decide_eq_true hc] at h
    exact hQ0 _ _ ⟨_, _, I5, fun J => h _ J⟩
  · rw [decide_eq_false hc, if_neg Bool.false_ne_true]
    rw [decide_eq_false hc, Bool.false_or] at h
    refine BoolOp_one ?_
    refine wpAny_Call_NameR ?_; refine ldB (by assumption) (by assumption) (by assumption) (g_bool _) b_bool ?_; refine PyProof.Rows.callWith_type1 ?_; refine PyProof.Rows.args_cons ?_; refine Attribute_any_ ?_; refine ldV (by assumption) (by assumption) (by rfl) ?_
    refine getA I5 hW' (i := 0) (j := 1) rfl rfl (by rfl) (by rfl) (by rfl) (P := vref ry) rfl handed_ref ?_
    rintro _ s6 rfl I6
    refine PyProof.Rows.args_nil ?_
    refine boolL I6 (l := ry) last_get ?_ (by rw [List.length_map]; omega)
    intro s7 I7
    refine hQ0 _ _ ⟨_, _, I7, fun J => ?_⟩
    have e : (rs.map isI).isEmpty = rs.isEmpty := by cases rs <;> rfl
    rw [show flowVal (Flow.ret (Value.bool !(rs.map isI).isEmpty)) = Value.bool (!rs.isEmpty) by rw [e]; rfl]
    exact h _ J
end
end Mine
end
-- MG6
section
open PySem PySem.W PyProof.Rows
set_option maxRecDepth 100000
set_option maxHeartbeats 4000000
namespace Mine

section
variable {prog : Program} {w : World} {A : Around} {E : Value → Shared → Prop} {s : Shared}
variable {g : Heap} {G : Array GenState} {O : OsState} {L : Addr} {m : List (Str × VP)} {objs : List (Addr × OP)}

theorem setA_as0 {x dx nd : Addr} {ns : List NI} {fr : List (Addr × OP)} {as as' : List (Str × VP)} (e : as' = as) : (tsO prog w x dx nd as' ns ++ fr) = tsO prog w x dx nd as ns ++ fr := by rw [e]

theorem ready_call {x dx nd ry : Addr} {ns : List NI} {rs : List Int} {a b : Int} {Q : Value → Shared → Prop} (I : St g G O L m (tsO prog w x dx nd (as0 nd (vref ry) a b) ns ++ [(ry, isLI rs)]) s) (hW : W w g) (hroom : A.depth < 870) (hh : A.handled = none) (hz : rs.length ≤ 900)
    (hk : ∀ r ∈ rs, r ∈ keysN ns) (hnd : (keysN ns).Nodup)
    (h : ∀ T s', St g G O L m (tsO prog w x dx nd (as0 nd (vref ry) (a + rs.length) b) (setKs ns rs (-1)) ++ [(ry, isLI []), (T, isT (rs.map isI))]) s' → Q (.ref T) s') :
    wpAny (model prog w) A (call (.ref 222) [.ref x]) Q E s := by
  refine call_fn (bs := [("self", .ref x)]) I hW (by unfold recursionLimit; omega) rfl rfl rfl rfl (BindsTo.of_eq rfl) rfl rfl ?_
  intro g' L' s' env HE hW' I' E'
  refine post_gen fun Q0 hQ0 => ?_
  dsimp only at HE
  have I2 := I'.loc (m' := [("self", vref x)]) ⟨⟨_, rfl, fun _ x => x⟩, trivial⟩
  clear I'
  refine wpAny_execs_cons ?_
  refine wpAny_mono (Q := fun fl s5 => fl = .next ∧ St g' G O L' [nm "self" (vref x)] (tsO prog w x dx nd (as0 nd (vref ry) a b) ns ++ [(ry, isLI rs)]) s5) ?ifA ?ifB fun _ _ x => x
  case ifA =>
    refine wpAny_If ?_
    refine wpAny_isTrue_Compare1 ?_; refine Attribute_any_ ?_; refine ldV (by assumption) (by assumption) (by rfl) ?_
    refine getA I2 hW' (i := 0) (j := 1) rfl rfl (by rfl) (by rfl) (by rfl) (P := vref ry) rfl handed_ref ?_
    rintro _ s3 rfl I3
    refine wpAny_Constant_none ?_; refine wpAny_is_plain rfl (wpAny_truthy_bool ?_); rw [if_neg (show ¬ ((Value.ref _ == Value.none) = true) from Bool.false_ne_true)]
    exact wpAny_execs_nil ⟨rfl, I3⟩
  rintro fl s3 ⟨rfl, I3⟩
  refine wpAny_execs_cons ?_; refine wpAny_Assign_Name ?_; refine wpAny_Call_NameR ?_; refine ldB (by assumption) (by assumption) (by assumption) (g_tuple _) b_tuple ?_; refine PyProof.Rows.callWith_type1 ?_; refine PyProof.Rows.args_cons ?_; refine Attribute_any_ ?_; refine ldV (by assumption) (by assumption) (by rfl) ?_
  refine getA I3 hW' (i := 0) (j := 1) rfl rfl (by rfl) (by rfl) (by rfl) (P := vref ry) rfl handed_ref ?_
  rintro _ s4 rfl I4
  refine PyProof.Rows.args_nil ?_
  refine tupL I4 (l := ry) last_get ?_ (by rw [List.length_map]; omega)
  intro T s5 I5
  refine sto (P := isV _) (by assumption) (by assumption) rfl (fun _ _ => ?_); refine wpAny_execs_cons ?_; refine wpAny_Assign_Name ?_; refine Attribute_any_ ?_; refine ldV (by assumption) (by assumption) (by rfl) ?_
  rename St _ _ _ _ _ _ _ => I6
  refine getA I6 hW' (i := 0) (j := 1) rfl rfl (by rfl) (by rfl) (by rfl) (P := vref nd) rfl handed_ref ?_
  rintro _ s7 rfl I7
  refine sto (P := isV _) (by assumption) (by assumption) rfl (fun _ _ => ?_); refine wpAny_execs_cons ?_
  rename St _ _ _ _ _ _ _ => I8
  refine wpAny_For ?_
  refine ldV (by assumption) (by assumption) (by rfl) ?_
  refine iterT I8 (l := T) (ps := rs.map isI) last_get ?_
  intro it s9 I9
  clear I2 I3 I4 I5 I6 I7 I8
  refine forI (It.tuple (by exact hh) it T (rs.map isI)) HE (fun k m' objs' => m' = [nm "n2i" (vref nd), nm "result" (vref T), nm "self" (vref x)] ∧ objs' = tsO prog w x dx nd (as0 nd (vref ry) a b) (setKs ns (rs.take k) (-1)) ++ [(ry, isLI rs), (T, isT (rs.map isI))])
    ⟨rfl, by rw [List.append_assoc]; rfl⟩ (fun k m' objs' h q hq => by
      rw [h.2, List.mem_singleton.mp hq]; exact List.mem_append_right _ (.tail _ (.head _))) I9 ?turn ?fin
  case turn =>
    intro k g2 m2 objs2 s10 hg2 hkk hInv I10 E2
    refine post_gen fun Q1 hQ1 => ?_
    obtain ⟨rfl, rfl⟩ := hInv
    have hk' : k < rs.length := by simpa using hkk
    have hW2 := hW'.keeps hg2
    have I11 := I10.loc (m' := [nm "node" (isI (rs.getD k 0)), nm "n2i" (vref nd), nm "result" (vref T), nm "self" (vref x)]) ⟨⟨_, rfl, fun v hv => hv _ (isLI_get hk')⟩, ⟨_, rfl, fun _ x => x⟩, ⟨_, rfl, fun _ x => x⟩, ⟨_, rfl, fun _ x => x⟩, trivial⟩
    clear I9 I10
    have etk : rs.take (k + 1) = rs.take k ++ [rs.getD k 0] := by rw [List.take_add_one]; simp [hk']
    have hmem : rs.getD k 0 ∈ rs := by simp [hk']
    generalize rs.getD k 0 = y at *
    obtain ⟨i, n, hi, hnk, hnD⟩ := node_of_key (ns := setKs ns (rs.take k) (-1)) (k := y) (by rw [setKs_keys]; exact hk _ hmem)
    refine wpAny_execs_cons ?_; refine plainObj_wpAny_Assign_Attribute ?_
    obtain ⟨to, hto⟩ := g_NODE_OUT w
    refine ldG HE I11 hW2 hto ?_
    refine Subscript_ ?_; refine ldV (by assumption) (by assumption) (by rfl) ?_; refine ldI (by assumption) (by assumption) (by rfl) (fun _ => ?_)
    refine subscrD I11 (i := 2) rfl hnD ?_
    rintro _ s12 rfl I12
    refine npSet I12 hW2 hi ?_
    intro s13 I13
    rw [set_setK (by rw [setKs_keys]; exact hnd) hi, hnk, ← setKs_snoc, ← etk] at I13
    exact wpAny_execs_nil (hQ1 _ _ ⟨.inl rfl, _, _, ⟨rfl, rfl⟩, I13.loc ⟨⟨_, rfl, fun _ x => x⟩, ⟨_, rfl, fun _ x => x⟩, ⟨_, rfl, fun _ x => x⟩, trivial⟩⟩)
  case fin =>
    rintro m2 objs2 s10 ⟨rfl, rfl⟩ I10
    rw [show rs.take (rs.map isI).length = rs by simp] at I10
    clear I9
    have hix : ∀ as ns' (P : OP) fr, (tsO prog w x dx nd as ns' ++ (ry, P) :: fr)[(tsO prog w x dx nd as ns').length]? = some (ry, P) := fun as ns' P fr => by
      rw [List.getElem?_append_right (Nat.le_refl _)]; simp
    refine wpAny_execs_cons ?_; refine exprS (by assumption) ?_; refine methodCall_KW ?_; refine Attribute_any_ ?_; refine ldV (by assumption) (by assumption) (by rfl) ?_
    refine getA I10 hW' (i := 0) (j := 1) rfl rfl (by rfl) (by rfl) (by rfl) (P := vref ry) rfl handed_ref ?_
    rintro _ s11 rfl I11
    refine meth_of_on (clearM I11 (l := ry) (hix _ _ _ _) (by rw [List.length_map]; omega) ?_)
    intro s12 I12
    have e12 : ∀ as ns' (P P' : OP) fr, (tsO prog w x dx nd as ns' ++ (ry, P) :: fr).set (tsO prog w x dx nd as ns').length (ry, P') = tsO prog w x dx nd as ns' ++ (ry, P') :: fr := fun as ns' P P' fr => by
      rw [List.set_append_right _ _ (Nat.le_refl _)]; simp
    rw [e12] at I12
    refine wpAny_execs_cons ?_; refine wpAny_AugAssign_AttributeAny ?_; refine ldV (by assumption) (by assumption) (by rfl) ?_
    refine getA I12 hW' (i := 0) (j := 1) rfl rfl (by rfl) (by rfl) (by rfl) (P := isI a) rfl handed_int ?_
    rintro _ s13 ⟨t13, rfl⟩ I13
    refine wpAny_Call_NameR ?_; refine ldB (by assumption) (by assumption) (by assumption) (g_len _) b_len ?_; refine PyProof.Rows.callWith_builtin1 ?_; refine PyProof.Rows.args_cons ?_; refine ldV (by assumption) (by assumption) (by rfl) ?_; refine PyProof.Rows.args_nil ?_
    refine lenT I13 (i := (tsO prog w x dx nd (as0 nd (vref ry) a b) (setKs ns rs (-1)) ++ [(ry, isL [])]).length) (l := T) (ps := rs.map isI) (by rw [show (tsO prog w x dx nd (as0 nd (vref ry) a b) (setKs ns rs (-1)) ++ [(ry, isL []), (T, isT (rs.map isI))]) = (tsO prog w x dx nd (as0 nd (vref ry) a b) (setKs ns rs (-1)) ++ [(ry, isL [])]) ++ [(T, isT (rs.map isI))] by rw [List.append_assoc]; rfl]; exact last_get) ?_ (by rw [List.length_map]; omega)
    intro t14 s14 I14
    refine oIAdd I14 ?_
    intro t15 s15 I15
    refine setA I15 hW' (i := 0) (j := 1) rfl rfl (by rfl) (by rfl) (by rfl) (by rfl) (by show 4 ≤ 900; omega) (P := isI (a + (rs.map isI).length)) ⟨_, rfl⟩ ?_
    intro s16 I16
    refine wpAny_execs_cons ?_; refine wpAny_Return_some ?_; refine ldV (by assumption) (by assumption) (by rfl) ?_
    refine hQ0 _ _ ⟨_, _, I16, fun J => h T _ ?_⟩
    have e : updA (Str.ofString "_npassedout") (isI (a + ((rs.map isI).length : Nat))) (as0 nd (vref ry) a b) = as0 nd (vref ry) (a + ((rs.map isI).length : Nat)) b := by rfl
    rw [e] at J
    rw [List.length_map] at J
    exact J
end
end Mine
end
-- MG7
section
open PySem PySem.W PyProof.Rows
set_option maxRecDepth 100000
set_option maxHeartbeats 4000000
namespace Mine

theorem mem_setK {ns : List NI} {k np : Int} {n : NI} (h : n ∈ setK ns k np) : ∃ n0 ∈ ns, n0.key = n.key ∧ n0.sa = n.sa ∧ n0.succ = n.succ ∧ n0.na = n.na ∧ n0.da = n.da ∧ (if n.key = k then n.np = np else n0 = n) := by
  unfold setK at h
  obtain ⟨n0, h0, rfl⟩ := List.mem_map.mp h
  refine ⟨n0, h0, ?_⟩
  split
  · rename_i e; simp [e]
  · rename_i e; simp [e]
theorem mem_setKs {ns : List NI} {ks : List Int} {np : Int} {n : NI} (h : n ∈ setKs ns ks np) : ∃ n0 ∈ ns, n0.key = n.key ∧ n0.sa = n.sa ∧ n0.succ = n.succ ∧ n0.na = n.na ∧ n0.da = n.da ∧ (if n.key ∈ ks then n.np = np else n0 = n) := by
  unfold setKs at h
  induction ks generalizing ns with
  | nil => exact ⟨n, h, rfl, rfl, rfl, rfl, rfl, by simp⟩
  | cons k r ih =>
    rw [List.foldl_cons] at h
    obtain ⟨n1, h1, a1, a2, a3, a4, a5, a6⟩ := ih h
    obtain ⟨n2, h2, b1, b2, b3, b4, b5, b6⟩ := mem_setK h1
    refine ⟨n2, h2, b1.trans a1, b2.trans a2, b3.trans a3, b4.trans a4, b5.trans a5, ?_⟩
    by_cases e : n.key ∈ r
    · rw [if_pos e] at a6
      rw [if_pos (List.mem_cons_of_mem _ e)]; exact a6
    · rw [if_neg e] at a6
      subst a6
      by_cases e2 : n1.key = k
      · rw [if_pos e2] at b6
        rw [if_pos (by rw [e2]; exact .head _)]; exact b6
      · rw [if_neg e2] at b6
        rw [if_neg (by simp [e, e2])]; exact b6
noncomputable def SucIn (ns : List NI) (sa : Addr) (l : List Int) : Prop := ∃ n ∈ ns, n.sa = sa ∧ n.succ = l
theorem SucIn.setK {ns : List NI} {sa : Addr} {l : List Int} (h : SucIn ns sa l) (k np : Int) : SucIn (setK ns k np) sa l := by
  obtain ⟨n, hn, h1, h2⟩ := h
  refine ⟨_, List.mem_map_of_mem hn, ?_⟩
  split <;> exact ⟨h1, h2⟩
theorem SucIn.setKs {ns : List NI} {sa : Addr} {l : List Int} (h : SucIn ns sa l) (ks : List Int) (np : Int) : SucIn (setKs ns ks np) sa l := by
  unfold Mine.setKs
  induction ks generalizing ns with
  | nil => exact h
  | cons k r ih => rw [List.foldl_cons]; exact ih (h.setK k np)
theorem SucIn.mem : ∀ {ns : List NI} {sa : Addr} {l : List Int}, SucIn ns sa l → (sa, isLI l) ∈ gr ns := by
  rintro ns sa l ⟨n, hn, rfl, rfl⟩
  obtain ⟨i, hi⟩ := List.mem_iff_getElem?.mp hn
  exact List.mem_of_getElem? (gr_suc hi)

section
variable {prog : Program} {w : World} {A : Around} {E : Value → Shared → Prop} {s : Shared}
variable {g : Heap} {G : Array GenState} {O : OsState} {L : Addr} {m : List (Str × VP)} {objs : List (Addr × OP)}

theorem done_call {x dx nd ry : Addr} {ns : List NI} {rs : List Int} {a b y : Int} {t : Tok} {n : NI} {Q : Value → Shared → Prop} (I : St g G O L m (tsO prog w x dx nd (as0 nd (vref ry) a b) ns ++ [(ry, isLI rs)]) s) (hW : W w g) (hroom : A.depth < 870) (hh : A.handled = none) (hz : rs.length ≤ 400)
    (hn : n ∈ ns) (hny : n.key = y) (hnp : n.np = -1) (hsn : n.succ.Nodup) (hsl : n.succ.length ≤ 400) (hsk : ∀ c ∈ n.succ, c ∈ keysN ns) (hs1 : ∀ n' ∈ ns, n'.key ∈ n.succ → n'.np = 1) (hnd : (keysN ns).Nodup)
    (h : ∀ s', St g G O L m (tsO prog w x dx nd (as0 nd (vref ry) a (b + 1)) (setKs (setK ns y (-2)) n.succ 0) ++ [(ry, isLI (rs ++ n.succ))]) s' → Q .none s') :
    wpAny (model prog w) A (call (.ref 243) [.ref x, .int y t]) Q E s := by
  refine wpAny_call (code_fnV hW I (by unfold recursionLimit; omega) rfl rfl rfl rfl rfl ?_)
  refine wpAny_of_eqB (m' := (newTuple [.int y t] >>= fun T => pure [(Str.ofString "self", .ref x), (Str.ofString "nodes", T)])) rfl ?_
  refine wpAny_bind (newT (ps := [isI y]) I (.one ⟨_, rfl⟩) ?_)
  intro T s1 I1
  refine wpAny_pure ⟨_, I1, rfl, ?_⟩
  intro g' L' s' env HE hW' I' E'
  refine post_gen fun Q0 hQ0 => ?_
  dsimp only at HE
  rw [List.append_assoc] at I'
  have I2 := I'.loc (m' := [("self", vref x), ("nodes", vref T)]) ⟨⟨_, rfl, fun _ x => x⟩, ⟨_, rfl, fun _ x => x⟩, trivial⟩
  clear I'
  have hix : ∀ as ns' (P : OP) fr, (tsO prog w x dx nd as ns' ++ (ry, P) :: fr)[(tsO prog w x dx nd as ns').length]? = some (ry, P) := fun as ns' P fr => by
    rw [List.getElem?_append_right (Nat.le_refl _)]; simp
  have e12 : ∀ as ns' (P P' : OP) fr, (tsO prog w x dx nd as ns' ++ (ry, P) :: fr).set (tsO prog w x dx nd as ns').length (ry, P') = tsO prog w x dx nd as ns' ++ (ry, P') :: fr := fun as ns' P P' fr => by
    rw [List.set_append_right _ _ (Nat.le_refl _)]; simp
  have hiT : ∀ as ns' (P : OP) (R : OP), (tsO prog w x dx nd as ns' ++ [(ry, P), (T, R)])[(tsO prog w x dx nd as ns').length + 1]? = some (T, R) := fun as ns' P R => by
    rw [List.getElem?_append_right (Nat.le_succ _), show (tsO prog w x dx nd as ns').length.succ - (tsO prog w x dx nd as ns').length = 1 by omega]; rfl
  refine wpAny_execs_cons ?_
  refine wpAny_mono (Q := fun fl s5 => fl = .next ∧ St g' G O L' [nm "self" (vref x), nm "nodes" (vref T)] (tsO prog w x dx nd (as0 nd (vref ry) a b) ns ++ [(ry, isLI rs), (T, isT [isI y])]) s5) ?ifA ?ifB fun _ _ x => x
  case ifA =>
    refine wpAny_If ?_
    refine wpAny_isTrue_Compare1 ?_; refine Attribute_any_ ?_; refine ldV (by assumption) (by assumption) (by rfl) ?_
    refine getA I2 hW' (i := 0) (j := 1) rfl rfl (by rfl) (by rfl) (by rfl) (P := vref ry) rfl handed_ref ?_
    rintro _ s3 rfl I3
    refine wpAny_Constant_none ?_; refine wpAny_is_plain rfl (wpAny_truthy_bool ?_); rw [if_neg (show ¬ ((Value.ref _ == Value.none) = true) from Bool.false_ne_true)]
    exact wpAny_execs_nil ⟨rfl, I3⟩
  rintro fl s3 ⟨rfl, I3⟩
  refine wpAny_execs_cons ?_; refine wpAny_Assign_Name ?_; refine Attribute_any_ ?_; refine ldV (by assumption) (by assumption) (by rfl) ?_
  refine getA I3 hW' (i := 0) (j := 1) rfl rfl (by rfl) (by rfl) (by rfl) (P := vref nd) rfl handed_ref ?_
  rintro _ s4 rfl I4
  refine sto (P := isV _) (by assumption) (by assumption) rfl (fun _ _ => ?_); refine wpAny_execs_cons ?_
  rename St _ _ _ _ _ _ _ => I5
  refine wpAny_For ?_
  refine ldV (by assumption) (by assumption) (by rfl) ?_
  refine iterT I5 (l := T) (ps := [isI y]) (hiT _ _ _ _) ?_
  intro it s6 I6
  clear I2 I3 I4 I5
  refine forI (It.tuple (by exact hh) it T [isI y]) HE (fun k m' objs' => m' = [nm "n2i" (vref nd), nm "self" (vref x)] ∧ ((k = 0 ∧ objs' = tsO prog w x dx nd (as0 nd (vref ry) a b) ns ++ [(ry, isLI rs), (T, isT [isI y])]) ∨
      (k = 1 ∧ objs' = tsO prog w x dx nd (as0 nd (vref ry) a (b + 1)) (setKs (setK ns y (-2)) n.succ 0) ++ [(ry, isLI (rs ++ n.succ)), (T, isT [isI y])]))) ⟨rfl, .inl ⟨rfl, rfl⟩⟩ (fun k m' objs' h q hq => by
      rw [List.mem_singleton.mp hq]
      obtain ⟨_, ⟨_, rfl⟩ | ⟨_, rfl⟩⟩ := h <;> exact List.mem_append_right _ (.tail _ (.head _))) (I6.loc ⟨⟨_, rfl, fun _ x => x⟩, ⟨_, rfl, fun _ x => x⟩, trivial⟩) ?turn ?fin
  case fin =>
    rintro m2 objs2 s7 ⟨rfl, h2⟩ I7
    have h3 : objs2 = tsO prog w x dx nd (as0 nd (vref ry) a (b + 1)) (setKs (setK ns y (-2)) n.succ 0) ++ [(ry, isLI (rs ++ n.succ)), (T, isT [isI y])] := by
      rcases h2 with ⟨q, _⟩ | ⟨_, e⟩
      · simp at q
      · exact e
    subst h3
    refine wpAny_execs_nil (hQ0 _ _ ⟨_, _, I7, fun J => h _ (J.cut (o2 := [(T, isT [isI y])]) (by rw [List.append_assoc]; rfl))⟩)
  case turn =>
    intro k g2 m2 objs2 s7 hg2 hkk hInv I7 E2
    refine post_gen fun Q1 hQ1 => ?_
    obtain ⟨rfl, h2⟩ := hInv
    obtain rfl : k = 0 := by simpa using hkk
    have h3 : objs2 = tsO prog w x dx nd (as0 nd (vref ry) a b) ns ++ [(ry, isLI rs), (T, isT [isI y])] := by
      rcases h2 with ⟨_, e⟩ | ⟨q, _⟩
      · exact e
      · omega
    subst h3
    have hW2 := hW'.keeps hg2
    have I8 := I7.loc (m' := [nm "node" (isI y), nm "n2i" (vref nd), nm "self" (vref x)]) ⟨⟨_, rfl, fun v hv => hv _ rfl⟩, ⟨_, rfl, fun _ x => x⟩, ⟨_, rfl, fun _ x => x⟩, trivial⟩
    clear I6 I7
    obtain ⟨i, hi⟩ := List.mem_iff_getElem?.mp hn
    refine wpAny_execs_cons ?_
    refine wpAny_mono (Q := fun fl s5 => fl = .next ∧ St g2 G O L' [nm "nodeinfo" (vref n.na), nm "node" (isI y), nm "n2i" (vref nd), nm "self" (vref x)] (tsO prog w x dx nd (as0 nd (vref ry) a b) ns ++ [(ry, isLI rs), (T, isT [isI y])]) s5) ?ifC ?ifD fun _ _ x => x
    case ifC =>
      refine wpAny_If ?_
      refine wpAny_isTrue_Compare1 ?_; refine wpAny_NamedExpr ?_; refine methodCall_KW ?_; refine ldV (by assumption) (by assumption) (by rfl) ?_
      refine meth_of_on (getDM I8 hW2 (i := 2) rfl ?_)
      refine ldI (by assumption) (by assumption) (by rfl) (fun _ => ?_)
      refine ⟨y, _, rfl, I8, fun hk => absurd (show y ∈ (nodeD ns).map (·.1) by rw [nodeD_keys]; exact List.mem_map.mpr ⟨n, hn, hny⟩) hk, fun P hP v s9 hv I9 => ?_⟩
      have hPe : P = vref n.na := by
        obtain ⟨n', hn', e⟩ := List.mem_map.mp hP
        obtain ⟨e1, e2⟩ := Prod.mk.inj e
        obtain ⟨j, hj⟩ := List.mem_iff_getElem?.mp hn'
        have hij : i = j := by
          have q1 : (keysN ns)[i]? = some y := by unfold keysN; rw [List.getElem?_map, hi]; simp [hny]
          have q2 : (keysN ns)[j]? = some y := by unfold keysN; rw [List.getElem?_map, hj]; simp [e1]
          exact (List.getElem?_inj (List.getElem?_eq_some_iff.mp q1).1 hnd).mp (q1.trans q2.symm)
        subst hij
        rw [hi] at hj
        rw [← e2, ← Option.some.inj hj]
      subst hPe
      obtain rfl : v = .ref n.na := hv
      refine wpAny_assign_Name ?_; refine sto (P := isV _) (by assumption) (by assumption) rfl (fun _ _ => ?_); refine wpAny_Constant_none ?_; refine wpAny_is_plain rfl (wpAny_truthy_bool ?_); rw [if_neg (show ¬ ((Value.ref _ == Value.none) = true) from Bool.false_ne_true)]
      rename St _ _ _ _ _ _ _ => I10
      exact wpAny_execs_nil ⟨rfl, I10.loc ⟨⟨_, rfl, fun _ x => x⟩, ⟨_, rfl, fun _ x => x⟩, ⟨_, rfl, fun _ x => x⟩, ⟨_, rfl, fun _ x => x⟩, trivial⟩⟩
    rintro fl s9 ⟨rfl, I9⟩
    clear I8
    refine wpAny_execs_cons ?_; refine wpAny_Assign_Name ?_; refine Attribute_any_ ?_; refine ldV (by assumption) (by assumption) (by rfl) ?_
    refine npGet I9 hW2 hi ?_
    intro t10 s10 I10
    rw [hnp]
    refine sto (P := isI _) (by assumption) (by assumption) ⟨_, rfl⟩ (fun _ _ => ?_); refine wpAny_execs_cons ?_
    rename St _ _ _ _ _ _ _ => I11
    obtain ⟨to, hto⟩ := g_NODE_OUT w
    obtain ⟨td, htd⟩ := g_NODE_DONE w
    refine wpAny_mono (Q := fun fl s5 => fl = .next ∧ St g2 G O L' [nm "nodeinfo" (vref n.na), nm "node" (isI y), nm "n2i" (vref nd), nm "self" (vref x)] (tsO prog w x dx nd (as0 nd (vref ry) a b) ns ++ [(ry, isLI rs), (T, isT [isI y])]) s5) ?ifE ?ifF fun _ _ x => x
    case ifE =>
      refine wpAny_If ?_
      refine wpAny_isTrue_Compare1 ?_; refine ldI (by assumption) (by assumption) (by rfl) (fun _ => ?_)
      refine ldG HE I11 hW2 hto ?_
      refine tNe (fun q => absurd rfl q) (fun _ => ?_)
      refine ifF ?_
      exact wpAny_execs_nil ⟨rfl, I11.loc ⟨⟨_, rfl, fun _ x => x⟩, ⟨_, rfl, fun _ x => x⟩, ⟨_, rfl, fun _ x => x⟩, ⟨_, rfl, fun _ x => x⟩, trivial⟩⟩
    rintro fl s12 ⟨rfl, I12⟩
    clear I9 I10 I11
    refine wpAny_execs_cons ?_; refine plainObj_wpAny_Assign_Attribute ?_
    refine ldG HE I12 hW2 htd ?_
    refine ldV (by assumption) (by assumption) (by rfl) ?_
    refine npSet I12 hW2 hi ?_
    intro s13 I13
    rw [set_setK hnd hi, hny] at I13
    have hsuc : SucIn (setK ns y (-2)) n.sa n.succ := SucIn.setK ⟨n, hn, rfl, rfl⟩ y (-2)
    have hi2 : (setK ns y (-2))[i]? = some { n with np := -2 } := by
      unfold setK; rw [List.getElem?_map, hi]; simp [hny]
    have hnd2 : (keysN (setK ns y (-2))).Nodup := by rw [setK_keys]; exact hnd
    refine wpAny_execs_cons ?_
    refine wpAny_For ?_
    refine Attribute_any_ ?_; refine ldV (by assumption) (by assumption) (by rfl) ?_
    refine sucGet (n := { n with np := -2 }) I13 hW2 hi2 ?_
    intro s14 I14
    refine iterL I14 (l := n.sa) (ps := n.succ.map isI) (ts_suc (n := { n with np := -2 }) hi2) ?_
    intro it2 s15 I15
    clear I12 I13 I14
    refine forI (It.list (by exact hh) it2 n.sa (n.succ.map isI)) HE (fun k m' objs' => m' = [nm "n2i" (vref nd), nm "self" (vref x)] ∧ objs' = tsO prog w x dx nd (as0 nd (vref ry) a b) (setKs (setK ns y (-2)) (n.succ.take k) 0) ++ [(ry, isLI (rs ++ n.succ.take k)), (T, isT [isI y])])
      ⟨rfl, by rw [show n.succ.take 0 = [] from rfl, List.append_nil]; rfl⟩ (fun k m' objs' h q hq => by
        rw [h.2, List.mem_singleton.mp hq]
        exact List.mem_append_left _ (.tail _ (.tail _ (.tail _ (hsuc.setKs _ _).mem)))) (I15.loc ⟨⟨_, rfl, fun _ x => x⟩, ⟨_, rfl, fun _ x => x⟩, trivial⟩) ?turn2 ?fin2
    case turn2 =>
      intro k g3 m3 objs3 s16 hg3 hkk hInv I16 E3
      refine post_gen fun Q1 hQ1 => ?_
      obtain ⟨rfl, rfl⟩ := hInv
      have hk' : k < n.succ.length := by simpa using hkk
      have hW3 := hW2.keeps hg3
      have I17 := I16.loc (m' := [nm "successor" (isI (n.succ.getD k 0)), nm "n2i" (vref nd), nm "self" (vref x)]) ⟨⟨_, rfl, fun v hv => hv _ (isLI_get hk')⟩, ⟨_, rfl, fun _ x => x⟩, ⟨_, rfl, fun _ x => x⟩, trivial⟩
      clear I15 I16
      have etk : n.succ.take (k + 1) = n.succ.take k ++ [n.succ.getD k 0] := by rw [List.take_add_one]; simp [hk']
      have hmem : n.succ.getD k 0 ∈ n.succ := by simp [hk']
      have hnew : n.succ.getD k 0 ∉ n.succ.take k := by
        have e1 : n.succ.take (k + 1) ++ n.succ.drop (k + 1) = n.succ := List.take_append_drop ..
        rw [← e1, etk] at hsn
        have n1 := (List.nodup_append.mp (List.nodup_append.mp hsn).1).2.2
        intro q
        exact n1 _ q _ (by simp) rfl
      generalize n.succ.getD k 0 = c at *
      have hcy : c ≠ y := by
        rintro rfl
        have := hs1 n hn (hny.symm ▸ hmem)
        omega
      obtain ⟨j, n', hj, hnk, hnD⟩ := node_of_key (ns := setKs (setK ns y (-2)) (n.succ.take k) 0) (k := c) (by rw [setKs_keys, setK_keys]; exact hsk _ hmem)
      have hnp' : n'.np = 1 := by
        obtain ⟨n0, h0, a1, a2, a3, a4, a5, a6⟩ := mem_setKs (List.mem_of_getElem? hj)
        rw [hnk, if_neg hnew] at a6
        subst a6
        obtain ⟨n1, h1, b1, b2, b3, b4, b5, b6⟩ := mem_setK h0
        rw [hnk, if_neg hcy] at b6
        subst b6
        exact hs1 _ h1 (by rw [hnk]; exact hmem)
      refine wpAny_execs_cons ?_; refine wpAny_Assign_Name ?_; refine Subscript_ ?_; refine ldV (by assumption) (by assumption) (by rfl) ?_; refine ldI (by assumption) (by assumption) (by rfl) (fun _ => ?_)
      refine subscrD I17 (i := 2) rfl hnD ?_
      rintro _ s18 rfl I18
      refine sto (P := isV _) (by assumption) (by assumption) rfl (fun _ _ => ?_); refine wpAny_execs_cons ?_; refine wpAny_AugAssign_AttributeAny ?_; refine ldV (by assumption) (by assumption) (by rfl) ?_
      rename St _ _ _ _ _ _ _ => I19
      refine npGet I19 hW3 hj ?_
      intro t20 s20 I20
      refine cI (by assumption) (fun _ _ _ => ?_)
      rename St _ _ _ _ _ _ _ => I21
      refine oISub I21 ?_
      intro t22 s22 I22
      rw [hnp', show (1 : Int) - 1 = 0 from rfl]
      refine npSet I22 hW3 hj ?_
      intro s23 I23
      have hj2 : ((setKs (setK ns y (-2)) (n.succ.take k) 0).set j { n' with np := 0 })[j]? = some { n' with np := 0 } := by
        rw [List.getElem?_set]; simp [(List.getElem?_eq_some_iff.mp hj).1]
      have eset : (setKs (setK ns y (-2)) (n.succ.take k) 0).set j { n' with np := 0 } = setKs (setK ns y (-2)) (n.succ.take (k + 1)) 0 := by
        rw [set_setK (by rw [setKs_keys]; exact hnd2) hj, hnk, ← setKs_snoc, ← etk]
      rw [eset] at I23 hj2
      refine wpAny_execs_cons ?_
      refine wpAny_mono (Q := fun fl s5 => fl = .next ∧ St g3 G O L' [nm "n2i" (vref nd), nm "self" (vref x)] (tsO prog w x dx nd (as0 nd (vref ry) a b) (setKs (setK ns y (-2)) (n.succ.take (k + 1)) 0) ++ [(ry, isLI (rs ++ n.succ.take (k + 1))), (T, isT [isI y])]) s5) ?ifG ?ifH fun _ _ x => x
      case ifH =>
        rintro fl s24 ⟨rfl, I24⟩
        exact wpAny_execs_nil (hQ1 _ _ ⟨.inl rfl, _, _, ⟨rfl, rfl⟩, I24⟩)
      refine wpAny_If ?_
      refine wpAny_isTrue_Compare1 ?_; refine Attribute_any_ ?_; refine ldV (by assumption) (by assumption) (by rfl) ?_
      refine npGet (n := { n' with np := 0 }) I23 hW3 hj2 ?_
      intro t24 s24 I24
      refine cI (by assumption) (fun _ _ _ => ?_)
      rename St _ _ _ _ _ _ _ => I25
      refine tEq (fun _ => ?_) (fun q => absurd rfl q)
      refine ifT ?_; refine wpAny_execs_cons ?_; refine exprS (by assumption) ?_; refine methodCall_KW ?_; refine Attribute_any_ ?_; refine ldV (by assumption) (by assumption) (by rfl) ?_
      refine getA I25 hW3 (i := 0) (j := 1) rfl rfl (by rfl) (by rfl) (by rfl) (P := vref ry) rfl handed_ref ?_
      rintro _ s26 rfl I26
      refine meth_of_on (appM I26 (l := ry) (hix _ _ _ _) ?_)
      refine ldI (by assumption) (by assumption) (by rfl) (fun _ => ?_)
      refine appLI I26 (l := ry) (hix _ _ _ _) ?_ (by simp; omega)
      intro s27 I27
      rw [e12, List.append_assoc, ← etk] at I27
      exact wpAny_execs_nil ⟨rfl, I27.loc ⟨⟨_, rfl, fun _ x => x⟩, ⟨_, rfl, fun _ x => x⟩, trivial⟩⟩
    case fin2 =>
      rintro m3 objs3 s16 ⟨rfl, rfl⟩ I16
      rw [show n.succ.take (n.succ.map isI).length = n.succ by simp] at I16
      refine wpAny_execs_cons ?_; refine wpAny_AugAssign_AttributeAny ?_; refine ldV (by assumption) (by assumption) (by rfl) ?_
      refine getA I16 hW2 (i := 0) (j := 1) rfl rfl (by rfl) (by rfl) (by rfl) (P := isI b) rfl handed_int ?_
      rintro _ s17 ⟨t17, rfl⟩ I17
      refine cI (by assumption) (fun _ _ _ => ?_)
      rename St _ _ _ _ _ _ _ => I18
      refine oIAdd I18 ?_
      intro t19 s19 I19
      refine setA I19 hW2 (i := 0) (j := 1) rfl rfl (by rfl) (by rfl) (by rfl) (by rfl) (by show 4 ≤ 900; omega) (P := isI (b + 1)) ⟨_, rfl⟩ ?_
      intro s20 I20
      refine wpAny_execs_nil (hQ1 _ _ ⟨.inl rfl, _, _, ⟨rfl, .inr ⟨rfl, rfl⟩⟩, ?_⟩)
      have e : updA (Str.ofString "_nfinished") (isI (b + 1)) (as0 nd (vref ry) a b) = as0 nd (vref ry) a (b + 1) := by rfl
      rw [e] at I20
      exact I20.loc ⟨⟨_, rfl, fun _ x => x⟩, ⟨_, rfl, fun _ x => x⟩, trivial⟩
end
end Mine
end
-- MG8
section
open PySem PySem.W PyProof.Rows
set_option maxRecDepth 100000
set_option maxHeartbeats 4000000
namespace Mine

section
variable {prog : Program} {w : World} {A : Around} {E : Value → Shared → Prop} {s : Shared}
variable {g : Heap} {G : Array GenState} {O : OsState} {L : Addr} {m : List (Str × VP)} {objs : List (Addr × OP)}

theorem NodeOK.nin {ns : List NI} {rk : Int → Nat} {st : List SE} {c : Int} (hc : NodeOK ns rk c st) : c ∉ st.map (·.key) := fun q => by
  obtain ⟨e, he, rfl⟩ := List.mem_map.mp q
  exact Nat.lt_irrefl _ (hc.2 e he)
theorem app4 {α : Type _} (a b c d : List α) : a ++ (b ++ (c ++ d)) = (a ++ (b ++ c)) ++ d := by simp only [List.append_assoc]
theorem stop_exc : isSubtype (.type "StopIteration") (.type "BaseException") = pure true := by rw [isSubtype_type]; kernel_rfl
theorem stop_self : isSubtype (.type "StopIteration") (.type "StopIteration") = pure true := by rw [isSubtype_type]; kernel_rfl
theorem stop_tuple : isSubtype (.type ((Manifest.find? "StopIteration").elim "type" fun x => x.metatype)) (.type "tuple") = pure false := by rw [isSubtype_type]; kernel_rfl
theorem cycle_call {x dx nd : Addr} {as : List (Str × VP)} {ns : List NI} {fr : List (Addr × OP)} {fl : List Env} {rk : Int → Nat} {Q : Value → Shared → Prop} (I : St g G O L m (tsO prog w x dx nd as ns ++ fr) s) (hW : W w g) (hroom : A.depth < 870) (hh : A.handled = none)
    (hfl : A.frames = some fl) (hfi : ∀ es ep, FrIn (fr ++ [(L, isFrm (.dict es ep))]) fl)
    (ha : as.lookup (Str.ofString "_node2info") = some (vref nd)) (hz : ns.length ≤ 80) (hs1 : ∀ n ∈ ns, n.succ.length ≤ 900) (hnd : (keysN ns).Nodup) (hr : ∀ n ∈ ns, ∀ c ∈ n.succ, c ∈ keysN ns ∧ rk n.key < rk c)
    (h : ∀ s', St g G O L m (tsO prog w x dx nd as ns ++ fr) s' → Q .none s') :
    wpAny (model prog w) A (call (.ref 250) [.ref x]) Q E s := by
  refine call_fnF (bs := [("self", .ref x)]) I hW (by unfold recursionLimit; omega) rfl rfl rfl rfl (BindsTo.of_eq rfl) rfl rfl ?_
  intro g' L' s' env es0 ep0 HE hef hW' I' E'
  refine post_gen fun Q0 hQ0 => ?_
  dsimp only at HE
  have hfl' : (A.deeper env).frames = some (env :: fl) := by
    show pushEnvs [env] A.frames = _
    rw [hfl]; rfl
  have hek : env.scope.kind ≠ .module := by rw [HE.kind]; decide
  generalize hfr' : fr ++ [(L, isFrm (.dict es0 ep0))] = fr' at I'
  have hfi' : FrIn fr' fl := hfr' ▸ hfi es0 ep0
  have I2 : St g' G O L' [("self", vref x)] (tsO prog w x dx nd as ns ++ fr') s' := (I'.loc (m' := [("self", vref x)]) ⟨⟨_, rfl, fun _ x => x⟩, trivial⟩).cast (by rw [← hfr', List.append_assoc])
  clear I'
  refine wpAny_execs_cons ?_; refine wpAny_Assign_Name ?_; refine Attribute_any_ ?_; refine ldV (by assumption) (by assumption) (by rfl) ?_
  refine getA I2 hW' (i := 0) (j := 1) rfl rfl (by rfl) (by rfl) (by rfl) ha handed_ref ?_
  rintro _ s3 rfl I3
  refine sto (P := isV _) (by assumption) (by assumption) rfl (fun _ _ => ?_); refine wpAny_execs_cons ?_; refine wpAny_Assign_Name ?_; refine PyProof.Rows.List_ ?_; refine PyProof.Rows.args_nil ?_
  rename St _ _ _ _ _ _ _ => I4
  refine newL (ps := []) I4 .nil ?_
  intro stk s5 I5
  refine sto (P := isV _) (by assumption) (by assumption) rfl (fun _ _ => ?_); refine wpAny_execs_cons ?_; refine wpAny_Assign_Name ?_; refine PyProof.Rows.List_ ?_; refine PyProof.Rows.args_nil ?_
  rename St _ _ _ _ _ _ _ => I6
  refine newL (ps := []) I6 .nil ?_
  intro its s7 I7
  refine sto (P := isV _) (by assumption) (by assumption) rfl (fun _ _ => ?_); refine wpAny_execs_cons ?_; refine wpAny_Assign_Name ?_; refine wpAny_Call_NameR ?_; refine ldB (by assumption) (by assumption) (by assumption) (g_set _) b_set ?_
  refine PyProof.Rows.callWith_type0 ?_
  rename St _ _ _ _ _ _ _ => I8
  refine newS (prog := prog) (w := w) I8 ?_
  intro sn s9 I9
  refine sto (P := isV _) (by assumption) (by assumption) rfl (fun _ _ => ?_); refine wpAny_execs_cons ?_; refine wpAny_Assign_Name ?_
  rename St _ _ _ _ _ _ _ => I10
  refine newDct (prog := prog) (w := w) I10 ?_
  intro n2 s11 I11
  refine sto (P := isV _) (by assumption) (by assumption) rfl (fun _ _ => ?_); refine wpAny_execs_cons ?_
  rename St _ _ _ _ _ _ _ => I12
  obtain ⟨ep, I13⟩ := I12.fixD (i := 2) rfl
  have I14 : St g' G O L' [nm "n2i" (vref nd), nm "stack" (vref stk), nm "itstack" (vref its), nm "seen" (vref sn), nm "node2stacki" (vref n2)] (fcO prog w stk its sn n2 x dx nd as ns ep fr' [] []) _ :=
    (I13.loc (m' := [nm "n2i" (vref nd), nm "stack" (vref stk), nm "itstack" (vref its), nm "seen" (vref sn), nm "node2stacki" (vref n2)]) ⟨⟨_, rfl, fun _ x => x⟩, ⟨_, rfl, fun _ x => x⟩, ⟨_, rfl, fun _ x => x⟩, ⟨_, rfl, fun _ x => x⟩, ⟨_, rfl, fun _ x => x⟩, trivial⟩).perm (by
      have e1 : (tsO prog w x dx nd as ns ++ fr' ++ [(stk, isL [])] ++ [(its, isL [])] ++ [(sn, isSt prog w [])] ++ [(n2, isD prog w [])]).set 2 (nd, isDE prog w (nodeD ns) ep) =
          ((x, isO (instObj 260 dx)) :: (dx, isA as) :: (nd, isDE prog w (nodeD ns) ep) :: (gr ns ++ (fr' ++ []))) ++ [(stk, isL []), (its, isL []), (sn, isSt prog w []), (n2, isD prog w [])] := by
        rw [List.append_nil, List.append_assoc (_ ++ fr'), List.append_assoc (_ ++ fr'), List.append_assoc (_ ++ fr')]
        rw [set_app (l := tsO prog w x dx nd as ns ++ fr') (x := (nd, isD prog w (nodeD ns))) rfl]
        rfl
      rw [e1]
      exact List.perm_append_comm (l₁ := [(stk, isL []), (its, isL []), (sn, isSt prog w []), (n2, isD prog w [])]))
  generalize hml : [nm "n2i" (vref nd), nm "stack" (vref stk), nm "itstack" (vref its), nm "seen" (vref sn), nm "node2stacki" (vref n2)] = ml at *
  clear I2 I3 I4 I5 I6 I7 I8 I9 I10 I11 I12 I13
  refine wpAny_For ?_
  subst hml
  refine ldV (by assumption) (by assumption) (by rfl) ?_
  refine iterK I14 hW' (i := 6) rfl ?_
  intro it s15 I15
  clear I14
  refine forI (It.keys (by exact hh) it nd (nodeD ns) ep) HE (fun k m' objs' => m' = [nm "n2i" (vref nd), nm "stack" (vref stk), nm "itstack" (vref its), nm "seen" (vref sn), nm "node2stacki" (vref n2)] ∧ ∃ ss, SInv ns rk ss [] ∧ objs' = fcO prog w stk its sn n2 x dx nd as ns ep fr' ss [])
    ⟨rfl, [], ⟨fun e he => (nomatch he), .nil, fun c hc => (nomatch hc), .nil⟩, rfl⟩ (fun k m' objs' h q hq => by
      obtain ⟨_, ss, _, rfl⟩ := h
      rw [List.mem_singleton.mp hq]
      exact List.mem_of_getElem? (i := 6) rfl) I15 ?turn ?fin
  case fin =>
    rintro m2 objs2 s16 ⟨rfl, ss, _, rfl⟩ I16
    refine wpAny_execs_cons ?_; refine wpAny_Return_some ?_; refine wpAny_Constant_none ?_
    have I17 : St g' G O L' [nm "n2i" (vref nd), nm "stack" (vref stk), nm "itstack" (vref its), nm "seen" (vref sn), nm "node2stacki" (vref n2)] ((tsO prog w x dx nd as ns ++ fr) ++ [(L, isFrm (.dict es0 ep0))]) s16 := by
      have I18 : St g' G O L' [nm "n2i" (vref nd), nm "stack" (vref stk), nm "itstack" (vref its), nm "seen" (vref sn), nm "node2stacki" (vref n2)] ((x, isO (instObj 260 dx)) :: (dx, isA as) :: (nd, isDE prog w (nodeD ns) ep) :: (gr ns ++ (fr' ++ seL []))) s16 := I16.subO (.cons _ (.cons _ (.cons _ (.cons _ (.refl _)))))
      refine (I18.weakD (i := 2) rfl).cast ?_
      rw [← hfr']
      show _ :: _ :: _ :: (gr ns ++ ((fr ++ _) ++ [])) = _
      rw [List.append_nil, ← List.append_assoc]
      rfl
    exact hQ0 _ _ ⟨_, _, I17, fun J => h _ J⟩
  case turn =>
    intro k g2 m2 objs2 s16 hg2 hk hI I16 E2
    refine post_gen fun Q1 hQ1 => ?_
    obtain ⟨rfl, ss, hSI, rfl⟩ := hI
    have hW2 := hW'.keeps hg2
    have hk' : k < ns.length := by unfold nodeD at hk; simpa using hk
    have I17 := I16.loc (m' := [nm "node" (isI ns[k].key), nm "n2i" (vref nd), nm "stack" (vref stk), nm "itstack" (vref its), nm "seen" (vref sn), nm "node2stacki" (vref n2)])
      ⟨⟨_, rfl, fun v hv => hv (ns[k].key, vref ns[k].na) (by unfold nodeD; rw [List.getElem?_map, List.getElem?_eq_getElem hk']; rfl)⟩, ⟨_, rfl, fun _ x => x⟩, ⟨_, rfl, fun _ x => x⟩, ⟨_, rfl, fun _ x => x⟩, ⟨_, rfl, fun _ x => x⟩, ⟨_, rfl, fun _ x => x⟩, trivial⟩
    clear I15 I16
    have hc0 : ns[k].key ∈ keysN ns := List.mem_map_of_mem (List.getElem_mem _)
    generalize ns[k].key = c0 at I17 hc0
    refine wpAny_execs_cons ?_
    refine wpAny_If ?_
    refine wpAny_isTrue_Compare1 ?_; refine ldI (by assumption) (by assumption) (by rfl) (fun _ => ?_); refine ldV (by assumption) (by assumption) (by rfl) ?_
    refine tInS I17 (i := 2) rfl ?_ ?_
    · intro _ s18 I18
      refine ifT ?_; refine wpAny_execs_cons ?_; refine wpAny_Continue ?_
      exact hQ1 _ _ ⟨.inr rfl, _, _, ⟨rfl, ss, hSI, rfl⟩, I18.loc ⟨⟨_, rfl, fun _ x => x⟩, ⟨_, rfl, fun _ x => x⟩, ⟨_, rfl, fun _ x => x⟩, ⟨_, rfl, fun _ x => x⟩, ⟨_, rfl, fun _ x => x⟩, trivial⟩⟩
    intro _ s18 I18
    clear I17
    refine ifF ?_
    refine wpAny_execs_nil ?_
    refine wpAny_execs_cons ?_
    refine wpAny_While ?_
    refine codeAny_mono (R := fun r s19 => r = .ok .next ∧ ∃ ss, SInv ns rk ss [] ∧ St g2 G O L' [nm "n2i" (vref nd), nm "stack" (vref stk), nm "itstack" (vref its), nm "seen" (vref sn), nm "node2stacki" (vref n2)] (fcO prog w stk its sn n2 x dx nd as ns ep fr' ss []) s19) ?loop ?aft
    case aft =>
      rintro r s19 ⟨rfl, ss2, hSI2, I19⟩
      exact wpAny_execs_nil (hQ1 _ _ ⟨.inl rfl, _, _, ⟨rfl, ss2, hSI2, rfl⟩, I19⟩)
    refine whileQ (I := fun F s => ∃ ss st c, F = US ns ss + SS st ∧ SInv ns rk ss st ∧ NodeOK ns rk c st ∧ St g2 G O L' [nm "node" (isI c), nm "n2i" (vref nd), nm "stack" (vref stk), nm "itstack" (vref its), nm "seen" (vref sn), nm "node2stacki" (vref n2)] (fcO prog w stk its sn n2 x dx nd as ns ep fr' ss st) s) ?_ (US ns ss + SS [])
      ⟨ss, [], c0, rfl, hSI, ⟨hc0, fun e he => (nomatch he)⟩, I18⟩
    clear I18
    intro F s19 hI E1 B hB hBb hBr T1 hT1 hF1
    obtain ⟨ss, st, c, hF, hSI, hok, I19⟩ := hI
    refine wpAny_isTrue_value (wpAny_Constant_bool (wpAny_truthy_bool ?_))
    refine hT1 _ ?_
    refine wpAny_execs_cons ?_
    obtain ⟨hl1, hl2⟩ := hSI.len
    refine wpAny_mono (Q := fun fl s5 => fl = .next ∧ ∃ ss' st', F = US ns ss' + SS st' ∧ SInv ns rk ss' st' ∧ St g2 G O L' [nm "n2i" (vref nd), nm "stack" (vref stk), nm "itstack" (vref its), nm "seen" (vref sn), nm "node2stacki" (vref n2)] (fcO prog w stk its sn n2 x dx nd as ns ep fr' ss' st') s5) ?ifA ?ifB fun _ _ x => x
    case ifA =>
      refine post_gen fun Q3 hQ3 => ?_
      refine wpAny_If ?_
      refine wpAny_isTrue_Compare1 ?_; refine ldI (by assumption) (by assumption) (by rfl) (fun _ => ?_); refine ldV (by assumption) (by assumption) (by rfl) ?_
      refine tInS I19 (i := 2) rfl ?_ ?_
      · intro _ s20 I20
        refine ifT ?_; refine wpAny_execs_cons ?_
        refine wpAny_If ?_
        refine wpAny_isTrue_Compare1 ?_; refine ldI (by assumption) (by assumption) (by rfl) (fun _ => ?_); refine ldV (by assumption) (by assumption) (by rfl) ?_
        refine tInD I20 hW2 (i := 3) rfl (fun q => absurd (by rw [idxP_keys] at q; exact q) hok.nin) ?_
        intro _ s21 I21
        refine ifF ?_
        exact wpAny_execs_nil (wpAny_execs_nil (hQ3 _ _ ⟨rfl, ss, st, hF, hSI, I21.loc ⟨⟨_, rfl, fun _ x => x⟩, ⟨_, rfl, fun _ x => x⟩, ⟨_, rfl, fun _ x => x⟩, ⟨_, rfl, fun _ x => x⟩, ⟨_, rfl, fun _ x => x⟩, trivial⟩⟩))
      · intro hnin s20 I20
        clear I19
        refine ifF ?_; refine wpAny_execs_cons ?_; refine exprS (by assumption) ?_; refine methodCall_KW ?_; refine ldV (by assumption) (by assumption) (by rfl) ?_
        refine meth_of_on (addSM I20 (i := 2) rfl (by omega) ?_)
        refine ldI (by assumption) (by assumption) (by rfl) (fun _ => ?_)
        refine ⟨c, _, rfl, I20, fun s21 I21 => ?_⟩
        obtain ⟨i, n, hi, hnk, hnD⟩ := node_of_key hok.1
        have hni : n ∈ ns := List.mem_of_getElem? hi
        have hsuci : ∀ (a b c d e f g : Addr × OP) (r : List (Addr × OP)), (a :: b :: c :: d :: e :: f :: g :: (gr ns ++ r))[3 * i + 2 + 7]? = some (n.sa, isLI n.succ) := fun a b c d e f g r => get_app (l := gr ns) (gr_suc hi)
        have hreci : ∀ (a b c d e f g : Addr × OP) (r : List (Addr × OP)), (a :: b :: c :: d :: e :: f :: g :: (gr ns ++ r))[3 * i + 7]? = some n.recO := fun a b c d e f g r => get_app (l := gr ns) (gr_rec hi)
        have hempi : ∀ (a b c d e f g : Addr × OP) (r : List (Addr × OP)), (a :: b :: c :: d :: e :: f :: g :: (gr ns ++ r))[3 * i + 1 + 7]? = some (n.da, isO emptyDict) := fun a b c d e f g r => get_app (l := gr ns) (gr_emp hi)
        clear I20
        refine wpAny_execs_cons ?_; refine exprS (by assumption) ?_; refine methodCall_KW ?_; refine ldV (by assumption) (by assumption) (by rfl) ?_
        refine meth_of_on (appM I21 (i := 1) rfl ?_)
        refine Attribute_any_ ?_; refine wpAny_Call_NameR ?_; refine ldB (by assumption) (by assumption) (by assumption) (g_iter _) b_iter ?_; refine PyProof.Rows.callWith_builtin1 ?_; refine PyProof.Rows.args_cons ?_; refine Attribute_any_ ?_; refine Subscript_ ?_; refine ldV (by assumption) (by assumption) (by rfl) ?_; refine ldI (by assumption) (by assumption) (by rfl) (fun _ => ?_)
        refine subscrDE I21 (i := 6) rfl hnD ?_
        rintro _ s22 rfl I22
        refine slotGet I22 hW2 (hreci ..) (hempi ..) (p := 166) (k := 2) (fun _ => by rfl) (by rfl) rfl handed_ref ?_
        rintro _ s23 rfl I23
        refine PyProof.Rows.args_nil ?_
        refine iterAt I23 (hsuci ..) ?_
        intro it2 s24 I24
        refine nextAt I24 ?_
        intro q s25 I25
        refine appL I25 (i := 1) rfl (P := vref q) rfl ?_ (by simp; omega)
        intro s26 I26
        clear I21 I22 I23 I24 I25
        refine wpAny_execs_cons ?_; refine wpAny_Assign_Subscript ?_; refine wpAny_Call_NameR ?_; refine ldB (by assumption) (by assumption) (by assumption) (g_len _) b_len ?_; refine PyProof.Rows.callWith_builtin1 ?_; refine PyProof.Rows.args_cons ?_; refine ldV (by assumption) (by assumption) (by rfl) ?_; refine PyProof.Rows.args_nil ?_
        refine lenL I26 (i := 0) rfl ?_ (by simp; omega)
        intro t27 s27 I27
        refine ldV (by assumption) (by assumption) (by rfl) ?_; refine ldI (by assumption) (by assumption) (by rfl) (fun _ => ?_)
        refine setD I27 (i := 3) rfl (by rw [idxP_keys]; exact hok.nin) (P := isI _) ⟨_, rfl⟩ ?_ (by rw [idxP_length]; simp; omega)
        intro s28 I28
        refine wpAny_execs_cons ?_; refine exprS (by assumption) ?_; refine methodCall_KW ?_; refine ldV (by assumption) (by assumption) (by rfl) ?_
        refine meth_of_on (appM I28 (i := 0) rfl ?_)
        refine ldI (by assumption) (by assumption) (by rfl) (fun _ => ?_)
        refine appLI I28 (i := 0) rfl ?_ (by simp; omega)
        intro s29 I29
        refine wpAny_execs_nil (hQ3 _ _ ⟨rfl, ss ++ [c], st ++ [⟨c, q, it2, n.sa, 0, n.succ⟩], ?_, hSI.push (e := ⟨c, q, it2, n.sa, 0, n.succ⟩) hni hnk rfl rfl rfl hnin hok, ?_⟩)
        · rw [hF, SS_snoc, ← hnk, US_snoc hni hnd (hnk ▸ hnin)]
          show _ = _ + (_ + (n.succ.length - 0))
          omega
        · refine (I29.loc (m' := [nm "n2i" (vref nd), nm "stack" (vref stk), nm "itstack" (vref its), nm "seen" (vref sn), nm "node2stacki" (vref n2)]) ⟨⟨_, rfl, fun _ x => x⟩, ⟨_, rfl, fun _ x => x⟩, ⟨_, rfl, fun _ x => x⟩, ⟨_, rfl, fun _ x => x⟩, ⟨_, rfl, fun _ x => x⟩, trivial⟩).cast ?_
          unfold fcO
          rw [seL_append, List.map_append, List.map_append, List.map_cons, List.map_nil, List.map_cons, List.map_nil, idxP_append, app4]
          simp only [Nat.zero_add, List.length_map]
          rfl
    case ifB =>
      rintro fl s20 ⟨rfl, ss', st', hF', hSI', I20⟩
      clear I19 hSI hF hok
      refine wpAny_execs_cons ?_
      refine wpAny_While ?_
      refine codeAny_mono (R := fun r s21 => (r = .ok .next ∧ ∃ st c, F = US ns ss' + SS st + 1 ∧ SInv ns rk ss' st ∧ NodeOK ns rk c st ∧ St g2 G O L' [nm "node" (isI c), nm "n2i" (vref nd), nm "stack" (vref stk), nm "itstack" (vref its), nm "seen" (vref sn), nm "node2stacki" (vref n2)] (fcO prog w stk its sn n2 x dx nd as ns ep fr' ss' st) s21) ∨
        (r = .ok .brk ∧ SInv ns rk ss' [] ∧ St g2 G O L' [nm "n2i" (vref nd), nm "stack" (vref stk), nm "itstack" (vref its), nm "seen" (vref sn), nm "node2stacki" (vref n2)] (fcO prog w stk its sn n2 x dx nd as ns ep fr' ss' []) s21)) ?loop2 ?aft2
      case aft2 =>
        rintro r s21 (⟨rfl, st, c, hF2, hSI2, hok2, I21⟩ | ⟨rfl, hSI2, I21⟩)
        · exact wpAny_execs_nil (hB _ _ (.inl rfl) ⟨_, by omega, ss', st, c, rfl, hSI2, hok2, I21⟩)
        · exact hBb _ ⟨rfl, ss', hSI2, I21⟩
      refine whileQ (I := fun k s => ∃ st, k = st.length ∧ F = US ns ss' + SS st ∧ SInv ns rk ss' st ∧ St g2 G O L' [nm "n2i" (vref nd), nm "stack" (vref stk), nm "itstack" (vref its), nm "seen" (vref sn), nm "node2stacki" (vref n2)] (fcO prog w stk its sn n2 x dx nd as ns ep fr' ss' st) s) ?_ st'.length
        ⟨st', rfl, hF', hSI', I20⟩
      clear I20 hSI' hF'
      intro k2 s21 hI2 E2 B2 hB2 hBb2 hBr2 T2 hT2 hF2
      obtain ⟨st, hk2, hF', hSI, I21⟩ := hI2
      obtain ⟨hl1, hl2⟩ := hSI.len
      refine wpAny_isTrue_value ?_; refine ldV (by assumption) (by assumption) (by rfl) ?_
      refine truthyL I21 (i := 0) rfl ?_ (by simp; omega)
      intro s22 I22
      clear I21
      rcases List.eq_nil_or_concat st with rfl | ⟨st0, e, hst⟩
      · show T2 false _
        refine hF2 _ ?_; refine wpAny_execs_cons ?_; refine wpAny_Break ?_
        exact .inr ⟨rfl, hSI, I22⟩
      · rw [List.concat_eq_append] at hst
        subst hst
        rw [show (!(((st0 ++ [e]).map fun e => e.key).map isI).isEmpty) = true from by simp]
        refine hT2 _ ?_; refine wpAny_execs_cons ?_
        refine wpAny_Try_except ?_
        have hnode := (hSI.nodes e (by simp)).1
        have hje := (hSI.nodes e (by simp)).2
        obtain ⟨n, hni, hnk, hnsa, hnsu⟩ := hnode
        obtain ⟨i, hi⟩ := List.mem_iff_getElem?.mp hni
        have hsuci : ∀ (a b c d e' f g : Addr × OP) (r : List (Addr × OP)), (a :: b :: c :: d :: e' :: f :: g :: (gr ns ++ r))[3 * i + 2 + 7]? = some (e.sa, isLI e.succ) := fun a b c d e' f g r => by
          rw [← hnsa, ← hnsu]; exact get_app (l := gr ns) (gr_suc hi)
        refine wpAny_execs_cons ?_; refine wpAny_Assign_Name ?_
        refine callSub ?_
        refine Subscript_ ?_; refine ldV (by assumption) (by assumption) (by rfl) ?_; refine wpAny_UnaryOp ?_; refine cI (by assumption) (fun _ _ _ => ?_); refine oNeg (by assumption) (fun _ _ _ => ?_)
        rename_i t24 s24 I24
        refine subscrLast (ps := st0.map fun e => vref e.q) (P := vref e.q) I24 (i := 1) (by show some (its, isL ((st0 ++ [e]).map fun e => vref e.q)) = _; rw [List.map_append]; rfl) (by simp at hl2 ⊢; omega) ?_
        rintro _ rfl
        clear I22
        have hB : fcO prog w stk its sn n2 x dx nd as ns ep fr' ss' (st0 ++ [e]) = ((stk, isLI ((st0 ++ [e]).map (·.key))) :: (its, isL ((st0 ++ [e]).map fun e => vref e.q)) :: (sn, isSt prog w ss') :: (n2, isD prog w (idxP 0 ((st0 ++ [e]).map (·.key)))) :: (x, isO (instObj 260 dx)) :: (dx, isA as) :: (nd, isDE prog w (nodeD ns) ep) :: (gr ns ++ (fr' ++ seL st0)) ++ [(e.q, isO (wrapO e.it))]) ++ [(e.it, isLit e.sa e.j)] := by
          unfold fcO
          rw [seL_append, ← List.append_assoc fr', ← List.append_assoc (gr ns)]
          show _ :: _ :: _ :: _ :: _ :: _ :: _ :: (gr ns ++ (fr' ++ seL st0) ++ ([(e.q, _)] ++ [(e.it, _)])) = _
          rw [← List.append_assoc (gr ns ++ (fr' ++ seL st0))]
          rfl
        rw [hB] at I24
        have hgq : ∃ o, s24.heap.get? e.q = some o ∧ isO (wrapO e.it) o := (I24.led (e.q, isO (wrapO e.it)) (by simp)).1
        obtain ⟨oq, hq1, hq2⟩ := hgq
        have hq2' : oq = _ := hq2
        subst hq2'
        refine callWrap hq1 ?_
        by_cases hj : e.j < e.succ.length
        · refine wrapNext I24 (get_app (get_app (hsuci ..))) (get_app last_get) last_get (isLI_get hj) ?_
          rintro _ s25 ⟨t25, rfl⟩ I25
          rw [last_set] at I25
          refine sto (P := isI _) (by assumption) (by assumption) ⟨_, rfl⟩ (fun _ _ => ?_); refine wpAny_execs_cons ?_; refine wpAny_Break ?_
          rename St _ _ _ _ _ _ _ => I26
          have hmem : e.succ.getD e.j 0 ∈ e.succ := by simp [hj]
          refine hBb2 _ (.inl ⟨rfl, st0 ++ [{ e with j := e.j + 1 }], e.succ.getD e.j 0, ?_, hSI.step hj, hSI.ok hr hmem, ?_⟩)
          · rw [hF', SS_snoc, SS_snoc]
            show _ = _ + (_ + (e.succ.length - (e.j + 1))) + 1
            omega
          · refine (I26.loc (m' := [nm "node" (isI (e.succ.getD e.j 0)), nm "n2i" (vref nd), nm "stack" (vref stk), nm "itstack" (vref its), nm "seen" (vref sn), nm "node2stacki" (vref n2)]) ⟨⟨_, rfl, fun _ x => x⟩, ⟨_, rfl, fun _ x => x⟩, ⟨_, rfl, fun _ x => x⟩, ⟨_, rfl, fun _ x => x⟩, ⟨_, rfl, fun _ x => x⟩, ⟨_, rfl, fun _ x => x⟩, trivial⟩).cast ?_
            unfold fcO
            rw [seL_append, List.map_append, List.map_append, List.map_append, List.map_append]
            simp only [List.cons_append, List.append_assoc]
            rfl
        · refine wrapOut (by exact hh) I24 (get_app (hsuci ..)) last_get (by rw [List.length_map]; omega) ?_
          intro ex tt s25 I25
          refine noteF I25 hfl' hef hek (hfi'.mono fun p hp => ?_) ?_
          · exact List.mem_append_left _ (.tail _ (.tail _ (.tail _ (.tail _ (.tail _ (.tail _ (.tail _ (List.mem_append_right _ (List.mem_append_left _ hp)))))))))
          intro tb s26 I26
          refine flightF I26 ?_
          intro s27 I27
          clear I25 I26
          refine wpAny_handleBy_builtin (X := "StopIteration") (T := "StopIteration") (b := true) stop_exc stop_tuple stop_self ?_
          refine ldB (by assumption) (by assumption) (by assumption) (g_StopIteration _) b_StopIteration ?_
          refine ⟨rfl, ?_, ?_⟩
          · obtain ⟨oe, he1, he2, _⟩ := (I27.led (ex, isE tb) (List.mem_append_right _ (.head _))).1
            exact ⟨oe, he1, he2⟩
          refine ifT ?_
          refine flightF I27 ?_
          intro s28 I28
          clear I27
          refine wpAny_execs_cons ?_
          refine delS ?_
          refine ldV (by assumption) (by assumption) (by rfl) ?_; refine methodCall_KW ?_; refine ldV (by assumption) (by assumption) (by rfl) ?_
          refine meth_of_on (popLI (xs := st0.map (·.key)) (x := e.key) I28 (i := 0) (by show some (stk, isLI ((st0 ++ [e]).map (·.key))) = _; rw [List.map_append]; rfl) ?_ (by simp at hl2 ⊢; omega))
          intro t29 s29 I29
          refine delD (ps := idxP 0 (st0.map (·.key))) (P := isI ((0 + (st0.map (·.key)).length : Nat) : Int)) I29 (i := 3) (by show some (n2, isD prog w (idxP 0 ((st0 ++ [e]).map (·.key)))) = _; rw [List.map_append, ← idxP_append]; rfl) (by rw [idxP_length]; simp at hl2 ⊢; omega) ?_
          intro s30 I30
          refine wpAny_execs_cons ?_; refine exprS (by assumption) ?_; refine methodCall_KW ?_; refine ldV (by assumption) (by assumption) (by rfl) ?_
          refine meth_of_on (popM (ps := st0.map fun e => vref e.q) (P := vref e.q) I30 (i := 1) (by show some (its, isL ((st0 ++ [e]).map fun e => vref e.q)) = _; rw [List.map_append]; rfl) (by simp at hl2 ⊢; omega) ?_)
          intro v s31 hv I31
          refine wpAny_execs_nil ?_
          refine wpAny_execs_nil (hB2 _ _ (.inl rfl) ⟨st0.length, by rw [hk2]; simp, st0, rfl, ?_, hSI.pop, ?_⟩)
          · rw [hF', SS_snoc]; omega
          · refine I31.cut (o2 := [(e.q, isO (wrapO e.it)), (ex, isE tb), (tb, isTB)]) ?_
            show (stk, isLI (st0.map (·.key))) :: (its, isL (st0.map fun e => vref e.q)) :: (sn, isSt prog w ss') :: (n2, isD prog w (idxP 0 (st0.map (·.key)))) :: (x, isO (instObj 260 dx)) :: (dx, isA as) :: (nd, isDE prog w (nodeD ns) ep) :: (((gr ns ++ (fr' ++ seL st0)) ++ [(e.q, isO (wrapO e.it))]) ++ [(ex, isE tb), (tb, isTB)]) = _
            rw [List.append_assoc]
            rfl
end
end Mine
end
-- MG9
section
open PySem PySem.W PyProof.Rows
set_option maxRecDepth 100000
set_option maxHeartbeats 4000000
namespace Mine

section
variable {prog : Program} {w : World} {A : Around} {E : Value → Shared → Prop} {s : Shared}
variable {g : Heap} {G : Array GenState} {O : OsState} {L : Addr} {m : List (Str × VP)} {objs : List (Addr × OP)}
noncomputable def rootsN (ns : List NI) : List Int := (ns.filter fun n => decide (n.np = 0)).map (·.key)
theorem rootsN_snoc (ns : List NI) (n : NI) : rootsN (ns ++ [n]) = rootsN ns ++ (if n.np = 0 then [n.key] else []) := by
  unfold rootsN
  rw [List.filter_append, List.map_append]
  by_cases h : n.np = 0 <;> simp [h]

theorem prepare_call {x dx nd : Addr} {ns : List NI} {fr : List (Addr × OP)} {fl : List Env} {rk : Int → Nat} {Q : Value → Shared → Prop} (I : St g G O L m (tsO prog w x dx nd (as0 nd (isV .none) 0 0) ns ++ fr) s) (hW : W w g) (hroom : A.depth < 860) (hh : A.handled = none)
    (hfl : A.frames = some fl) (hfi : ∀ es ep, FrIn (fr ++ [(L, isFrm (.dict es ep))]) fl)
    (hz : ns.length ≤ 80) (hs1 : ∀ n ∈ ns, n.succ.length ≤ 900) (hnd : (keysN ns).Nodup) (hr : ∀ n ∈ ns, ∀ c ∈ n.succ, c ∈ keysN ns ∧ rk n.key < rk c)
    (h : ∀ ry s', St g G O L m (tsO prog w x dx nd (as0 nd (vref ry) 0 0) ns ++ ([(ry, isLI (rootsN ns))] ++ fr)) s' → Q .none s') :
    wpAny (model prog w) A (call (.ref 215) [.ref x]) Q E s := by
  refine call_fnF (bs := [("self", .ref x)]) I hW (by unfold recursionLimit; omega) rfl rfl rfl rfl (BindsTo.of_eq rfl) rfl rfl ?_
  intro g' L' s' env es0 ep0 HE hef hW' I' E'
  refine post_gen fun Q0 hQ0 => ?_
  dsimp only at HE
  have hfl' : (A.deeper env).frames = some (env :: fl) := by
    show pushEnvs [env] A.frames = _
    rw [hfl]; rfl
  have hek : env.scope.kind ≠ .module := by rw [HE.kind]; decide
  generalize hfr' : fr ++ [(L, isFrm (.dict es0 ep0))] = fr' at I'
  have hfi' : FrIn fr' fl := hfr' ▸ hfi es0 ep0
  have I2 : St g' G O L' [("self", vref x)] (tsO prog w x dx nd (as0 nd (isV .none) 0 0) ns ++ fr') s' := (I'.loc (m' := [("self", vref x)]) ⟨⟨_, rfl, fun _ x => x⟩, trivial⟩).cast (by rw [← hfr', List.append_assoc])
  clear I'
  refine wpAny_execs_cons ?_
  refine wpAny_mono (Q := fun fl s5 => fl = .next ∧ St g' G O L' [nm "self" (vref x)] (tsO prog w x dx nd (as0 nd (isV .none) 0 0) ns ++ fr') s5) ?ifA ?ifB fun _ _ x => x
  case ifA =>
    refine wpAny_If ?_
    refine wpAny_isTrue_Compare1 ?_; refine Attribute_any_ ?_; refine ldV (by assumption) (by assumption) (by rfl) ?_
    refine getA I2 hW' (i := 0) (j := 1) rfl rfl (by rfl) (by rfl) (by rfl) (P := isV .none) rfl (by rintro _ rfl; rfl) ?_
    rintro _ s3 rfl I3
    refine wpAny_Constant_none ?_; refine wpAny_isNot_plain rfl (wpAny_truthy_bool ?_); rw [if_neg (show ¬ ((!(Value.none == Value.none)) = true) from Bool.false_ne_true)]
    exact wpAny_execs_nil ⟨rfl, I3⟩
  rintro fl2 s3 ⟨rfl, I3⟩
  clear I2
  refine wpAny_execs_cons ?_; refine plainObj_wpAny_Assign_Attribute ?_
  refine lcomp HE rfl ?_
  refine methodCall_KW ?_; refine Attribute_any_ ?_; refine ldV (by assumption) (by assumption) (by rfl) ?_
  refine getA I3 hW' (i := 0) (j := 1) rfl rfl (by rfl) (by rfl) (by rfl) (P := vref nd) rfl handed_ref ?_
  rintro _ s4 rfl I4
  refine meth_of_on (valsM I4 hW' (i := 2) rfl ?_)
  intro vw s5 I5
  obtain ⟨ep, I6⟩ := I5.fixD (i := 2) rfl
  refine iterVw I6 (i := 2) (j := (tsO prog w x dx nd (as0 nd (isV .none) 0 0) ns ++ fr').length) rfl ?_ ?_
  · rw [List.getElem?_set_ne (by simp [tsO])]; exact last_get
  intro it s7 I7
  have I8 : St g' G O L' [nm "self" (vref x)] (((x, isO (instObj 260 dx)) :: (dx, isA (as0 nd (isV .none) 0 0)) :: (nd, isDE prog w (nodeD ns) ep) :: (gr ns ++ (fr' ++ [(vw, isVw nd "dict_values")]))) ++ [(it, isVit nd 0 (nodeD ns).length ep)]) s7 := I7.cast (by
    show _ :: _ :: _ :: ((gr ns ++ fr') ++ [(vw, isVw nd "dict_values")] ++ [(it, isVit nd 0 (nodeD ns).length ep)]) = _
    rw [List.append_assoc (gr ns)]
    rfl)
  clear I3 I4 I5 I6 I7
  refine compL (It.vals (by exact hh) it nd (nodeD ns) ep) HE (fun k qs objs' => qs = (rootsN (ns.take k)).map isI ∧ objs' = ((x, isO (instObj 260 dx)) :: (dx, isA (as0 nd (isV .none) 0 0)) :: (nd, isDE prog w (nodeD ns) ep) :: (gr ns ++ (fr' ++ [(vw, isVw nd "dict_values")])))) ⟨rfl, rfl⟩ (fun k qs objs' h q hq => by
      rw [h.2, List.mem_singleton.mp hq]; exact .tail _ (.tail _ (.head _)))
    (fun k qs objs' h => by
      rw [h.1, List.length_map]
      unfold rootsN
      rw [List.length_map]
      refine Nat.le_trans (List.length_filter_le ..) ?_
      simp; omega) I8 ?turn ?fin
  case turn =>
    intro k g2 C cenv s10 qs objs2 hg2 HC hk hI I10 E2
    refine wpAny_tests_one ?_
    refine post_if fun Q1 hQ1 hQ2 => ?_
    obtain ⟨rfl, rfl⟩ := hI
    have hW2 := hW'.keeps hg2
    have hk' : k < ns.length := by unfold nodeD at hk; simpa using hk
    have I11 := I10.loc (m' := [nm "i" (vref ns[k].na)]) ⟨⟨_, rfl, fun v hv => hv (ns[k].key, vref ns[k].na) (by unfold nodeD; rw [List.getElem?_map, List.getElem?_eq_getElem hk']; rfl)⟩, trivial⟩
    clear I8 I10
    have hi : ns[k]? = some ns[k] := List.getElem?_eq_getElem hk'
    have etk : ns.take (k + 1) = ns.take k ++ [ns[k]] := by rw [List.take_add_one, hi]; rfl
    generalize ns[k] = n at *
    have hreci : ∀ (a b c : Addr × OP) (r : List (Addr × OP)), (a :: b :: c :: (gr ns ++ r))[3 * k + 3]? = some n.recO := fun a b c r => get_app (l := gr ns) (gr_rec hi)
    have hempi : ∀ (a b c : Addr × OP) (r : List (Addr × OP)), (a :: b :: c :: (gr ns ++ r))[3 * k + 1 + 3]? = some (n.da, isO emptyDict) := fun a b c r => get_app (l := gr ns) (gr_emp hi)
    refine wpAny_isTrue_Compare1 ?_; refine Attribute_any_ ?_; refine ldV (by assumption) (by assumption) (by rfl) ?_
    refine slotGet I11 hW2 (hreci ..) (hempi ..) (p := 165) (k := 1) (fun _ => by rfl) (by rfl) rfl handed_int ?_
    rintro _ s12 ⟨t12, rfl⟩ I12
    refine cI (by assumption) (fun _ _ _ => ?_)
    rename St _ _ _ _ _ _ _ => I13
    refine tEq ?_ ?_
    · intro h0
      refine hQ1 _ (post_gen fun Q3 hQ3 => ?_); refine Attribute_any_ ?_; refine ldV (by assumption) (by assumption) (by rfl) ?_
      refine slotGet I13 hW2 (hreci ..) (hempi ..) (p := 164) (k := 0) (fun _ => by rfl) (by rfl) rfl handed_int ?_
      rintro _ s14 ⟨t14, rfl⟩ I14
      exact hQ3 _ _ ⟨_, _, isI n.key, ⟨_, rfl⟩, ⟨by rw [etk, rootsN_snoc, if_pos h0, List.map_append]; rfl, rfl⟩, I14⟩
    · intro h0
      exact hQ2 _ ⟨_, _, ⟨by rw [etk, rootsN_snoc, if_neg h0, List.append_nil], rfl⟩, I13⟩
  case fin =>
    rintro ry qs objs2 s10 ⟨rfl, rfl⟩ I10
    rw [show ns.take (nodeD ns).length = ns by unfold nodeD; simp] at I10
    refine ldV (by assumption) (by assumption) (by rfl) ?_
    refine setA I10 hW' (i := 0) (j := 1) rfl rfl (by rfl) (by rfl) (by rfl) (by rfl) (by show 4 ≤ 900; omega) (P := vref ry) rfl ?_
    intro s11 I11
    have I12 : St g' G O L' [nm "self" (vref x)] (tsO prog w x dx nd (as0 nd (vref ry) 0 0) ns ++ ([(ry, isLI (rootsN ns))] ++ fr')) s11 := by
      have e : updA (Str.ofString "_ready_nodes") (vref ry) (as0 nd (isV .none) 0 0) = as0 nd (vref ry) 0 0 := by rfl
      rw [e] at I11
      have I13 := (I11.weakD (i := 2) rfl)
      have I14 : St g' G O L' [nm "self" (vref x)] ((tsO prog w x dx nd (as0 nd (vref ry) 0 0) ns ++ (fr' ++ [(vw, isVw nd "dict_values")])) ++ [(ry, isLI (rootsN ns))]) s11 := I13
      have I15 : St g' G O L' [nm "self" (vref x)] ((tsO prog w x dx nd (as0 nd (vref ry) 0 0) ns ++ fr') ++ [(ry, isLI (rootsN ns))]) s11 := I14.subO (List.Sublist.append_right (by rw [← List.append_assoc]; exact List.sublist_append_left ..) _)
      refine I15.perm ?_
      rw [List.append_assoc]
      exact List.Perm.append_left _ (List.perm_append_comm (l₁ := [(ry, isLI (rootsN ns))]))
    clear I8 I10 I11
    refine wpAny_execs_cons ?_; refine wpAny_Assign_Name ?_; refine methodCall_KW ?_; refine ldV (by assumption) (by assumption) (by rfl) ?_
    refine getM I12 hW' (i := 0) (j := 1) rfl rfl (by rfl) (f := 250) (by rfl) (by rfl) (by rfl) ?_
    refine callWith_K0 (St.inK (by assumption) (by assumption)) (by with_unfolding_all rfl) ?_
    refine cycle_call I12 hW' (by simp only [Around.deeper]; omega) (by exact hh) hfl' (fun es ep => ⟨hek, ⟨L', es, ep, hef, last_mem⟩, hfi'.mono fun p hp => ?_⟩) rfl hz hs1 hnd hr ?_
    · exact List.mem_append_left _ (List.mem_append_right _ hp)
    intro s13 I13
    clear I12
    refine sto HE I13 (P := isV .none) rfl ?_
    intro s14 I14
    refine wpAny_execs_cons ?_
    refine wpAny_If ?_
    refine wpAny_isTrue_value ?_; refine ldV (by assumption) (by assumption) (by rfl) ?_; refine PyProof.Rows.truthy_none ?_; refine ifF ?_
    refine wpAny_execs_nil (wpAny_execs_nil (hQ0 _ _ ⟨_, _, I14.cast ?_, fun J => h ry _ J⟩))
    rw [← hfr']
    simp only [List.append_assoc]
end
end Mine
end
-- MP4
section
namespace Mine
structure Vw (ns : List NI) (K : List Int) (F : Int → Int) (S : Int → List Int) : Prop where
  nd : (keysN ns).Nodup
  ks : ∀ k, k ∈ keysN ns ↔ k ∈ K
  nv : ∀ n ∈ ns, n.np = F n.key ∧ n.succ = S n.key
theorem Vw.ins {ns ns' : List NI} {K : List Int} {F : Int → Int} {S : Int → List Int} {k : Int} {n : NI} (h : Vw ns K F S) (hk : k ∉ K → F k = 0 ∧ S k = []) (hi : Ins ns k ns' n) : Vw ns' (k :: K) F S := by
  obtain ⟨h1, h2, ⟨h3, rfl⟩ | ⟨h3, rfl, h4, h5⟩⟩ := hi
  · refine ⟨h.nd, fun k' => ⟨fun q => .tail _ ((h.ks k').mp q), fun q => ?_⟩, h.nv⟩
    rcases List.mem_cons.mp q with rfl | q
    · exact h3
    · exact (h.ks k').mpr q
  · have hn : k ∉ K := fun q => h3 ((h.ks k).mpr q)
    obtain ⟨e1, e2⟩ := hk hn
    have ek : keysN (ns ++ [n]) = keysN ns ++ [k] := by unfold keysN; rw [List.map_append, ← h2]; rfl
    refine ⟨?_, fun k' => ?_, fun n' hn' => ?_⟩
    · rw [ek]
      exact List.nodup_append.mpr ⟨h.nd, by simp, fun a ha b hb e => by rw [List.mem_singleton.mp hb] at e; subst e; exact h3 ha⟩
    · rw [ek, List.mem_append, h.ks]; simp; exact Or.comm
    · rcases List.mem_append.mp hn' with q | q
      · exact h.nv _ q
      · rw [List.mem_singleton.mp q, h2, h4, h5, e1, e2]; exact ⟨rfl, rfl⟩
theorem key_inj {ns : List NI} (hn : (keysN ns).Nodup) {i j : Nat} {n n' : NI} (hi : ns[i]? = some n) (hj : ns[j]? = some n') (e : n.key = n'.key) : i = j := by
  have q1 : (keysN ns)[i]? = some n.key := by unfold keysN; rw [List.getElem?_map, hi]; rfl
  have q2 : (keysN ns)[j]? = some n.key := by unfold keysN; rw [List.getElem?_map, hj, e]; rfl
  exact (List.getElem?_inj (List.getElem?_eq_some_iff.mp q1).1 hn).mp (q1.trans q2.symm)
theorem Vw.upd {ns : List NI} {K : List Int} {F F' : Int → Int} {S S' : Int → List Int} {i : Nat} {n n' : NI} (h : Vw ns K F S) (hi : ns[i]? = some n) (hk : n'.key = n.key) (h1 : n'.np = F' n.key) (h2 : n'.succ = S' n.key)
    (h3 : ∀ k, k ≠ n.key → F' k = F k ∧ S' k = S k) : Vw (ns.set i n') K F' S' := by
  have ek : keysN (ns.set i n') = keysN ns := keysN_set hi hk
  refine ⟨ek ▸ h.nd, fun k => by rw [ek]; exact h.ks k, fun m hm => ?_⟩
  obtain ⟨j, hj⟩ := List.mem_iff_getElem?.mp hm
  rw [List.getElem?_set] at hj
  split at hj
  · split at hj
    · cases hj; rw [hk]; exact ⟨h1, h2⟩
    · cases hj
  · rename_i ne
    have hne : m.key ≠ n.key := fun e => ne (key_inj h.nd hi hj e.symm)
    obtain ⟨e1, e2⟩ := h3 _ hne
    rw [e1, e2]
    exact h.nv m (List.mem_of_getElem? hj)
noncomputable def Fes (es : List (Int × Int)) (k : Int) : Int := ((es.filter fun p => decide (p.1 = k)).length : Int)
noncomputable def Ses (es : List (Int × Int)) (k : Int) : List Int := (es.filter fun p => decide (p.2 = k)).map (·.1)
noncomputable def Kes (es : List (Int × Int)) : List Int := es.map (·.1) ++ es.map (·.2)
theorem Vw.of {ns : List NI} {K K' : List Int} {F F' : Int → Int} {S S' : Int → List Int} (h : Vw ns K F S) (hk : ∀ k, k ∈ K ↔ k ∈ K') (hF : ∀ k, F k = F' k) (hS : ∀ k, S k = S' k) : Vw ns K' F' S' :=
  ⟨h.nd, fun k => (h.ks k).trans (hk k), fun n hn => by rw [← hF, ← hS]; exact h.nv n hn⟩
theorem Fes_snoc (es : List (Int × Int)) (c p k : Int) : Fes (es ++ [(c, p)]) k = if k = c then Fes es k + 1 else Fes es k := by
  unfold Fes
  rw [List.filter_append]
  by_cases h : k = c
  · subst h; simp
  · have : ¬ c = k := fun e => h e.symm
    simp [h, this]
theorem Ses_snoc (es : List (Int × Int)) (c p k : Int) : Ses (es ++ [(c, p)]) k = if k = p then Ses es k ++ [c] else Ses es k := by
  unfold Ses
  rw [List.filter_append, List.map_append]
  by_cases h : k = p
  · subst h; simp
  · have : ¬ p = k := fun e => h e.symm
    simp [h, this]
theorem Kes_out {es : List (Int × Int)} {k : Int} (h : k ∉ Kes es) : Fes es k = 0 ∧ Ses es k = [] := by
  unfold Kes at h
  rw [List.mem_append, not_or] at h
  unfold Fes Ses
  constructor
  · rw [List.filter_eq_nil_iff.mpr fun p hp => by simp; rintro rfl; exact h.1 (List.mem_map_of_mem hp)]; rfl
  · rw [List.filter_eq_nil_iff.mpr fun p hp => by simp; rintro rfl; exact h.2 (List.mem_map_of_mem hp)]; rfl
theorem AddAll.vw {es : List (Int × Int)} {ns : List NI} (h : AddAll es ns) : Vw ns (Kes es) (Fes es) (Ses es) := by
  induction h with
  | nil => exact ⟨.nil, fun k => by simp [keysN, Kes], fun n hn => nomatch hn⟩
  | @snoc es ns ns' c p h1 h2 ih =>
    obtain ⟨ns1, n1, i1, ns2, n2, i2, a1, a2, a3, a4, rfl⟩ := h2
    have v1 := ih.ins Kes_out a1
    have e1 : n1.key = c := a1.2.1
    have e2 : n2.key = p := a3.2.1
    obtain ⟨f1, f2⟩ := v1.nv n1 a1.1
    have v2 : Vw (ns1.set i1 { n1 with np := n1.np + 1 }) (c :: Kes es) (fun k => if k = c then Fes es k + 1 else Fes es k) (Ses es) :=
      v1.upd a2 rfl (by simp [e1, f1]) f2 fun k hk => ⟨by rw [if_neg (by rw [← e1]; exact hk)], rfl⟩
    have v3 := v2.ins (k := p) (fun hp => by
      rw [List.mem_cons, not_or] at hp
      obtain ⟨g1, g2⟩ := Kes_out hp.2
      exact ⟨by rw [if_neg hp.1]; exact g1, g2⟩) a3
    obtain ⟨f3, f4⟩ := v3.nv n2 a3.1
    have v4 : Vw (ns2.set i2 { n2 with succ := n2.succ ++ [c] }) (p :: c :: Kes es) (fun k => if k = c then Fes es k + 1 else Fes es k) (fun k => if k = p then Ses es k ++ [c] else Ses es k) :=
      v3.upd a4 rfl f3 (by simp [e2, f4]) fun k hk => ⟨rfl, by rw [if_neg (by rw [← e2]; exact hk)]⟩
    refine v4.of (fun k => ?_) (fun k => (Fes_snoc ..).symm) fun k => (Ses_snoc ..).symm
    unfold Kes
    simp only [List.map_append, List.mem_append, List.mem_cons, List.map_cons, List.map_nil, List.not_mem_nil, or_false]
    constructor
    · rintro (h | h | h | h)
      · exact .inr (.inr h)
      · exact .inl (.inr h)
      · exact .inl (.inl h)
      · exact .inr (.inl h)
    · rintro ((h | h) | h | h)
      · exact .inr (.inr (.inl h))
      · exact .inr (.inl h)
      · exact .inr (.inr (.inr h))
      · exact .inl h

/-- the tree over the people -/
structure TreeOK (os : List (Int × Int)) (head : Int) (rk : Int → Nat) : Prop where
  kn : (os.map (·.1)).Nodup
  rng : ∀ p ∈ os, 0 ≤ p.1 ∧ p.1 < 16
  hrng : 0 ≤ head ∧ head < 16
  hd : head ∉ os.map (·.1)
  up : ∀ p ∈ os, p.2 = head ∨ p.2 ∈ os.map (·.1)
  rk : ∀ p ∈ os, rk p.2 < rk p.1
  ne : os ≠ []
noncomputable def downs : List Int := [15, 14, 13, 12, 11, 10, 9, 8, 7, 6, 5, 4, 3, 2, 1, 0]
noncomputable def downF (os : List (Int × Int)) (c : Int) : Option (Int × Int) := (os.lookup c).map fun p => (c, p)
noncomputable def downE (os : List (Int × Int)) : List (Int × Int) := downs.filterMap (downF os)
theorem mem_downs {x : Int} : x ∈ downs ↔ 0 ≤ x ∧ x < 16 := by
  refine ⟨(show ∀ y ∈ downs, 0 ≤ y ∧ y < 16 by decide) x, fun h => ?_⟩
  obtain ⟨n, rfl⟩ := Int.eq_ofNat_of_zero_le h.1
  exact (show ∀ k : Fin 16, ((k.val : Nat) : Int) ∈ downs by decide) ⟨n, Int.ofNat_lt.mp h.2⟩
theorem downs_nodup : downs.Nodup := by decide
theorem lookup_mem {os : List (Int × Int)} {c p : Int} (h : os.lookup c = some p) : (c, p) ∈ os := by
  induction os with
  | nil => cases h
  | cons x r ih =>
    rw [List.lookup_cons] at h
    by_cases e : (c == x.1) = true
    · rw [e] at h
      have := beq_iff_eq.mp e
      cases h; subst this; exact .head _
    · have e' : (c == x.1) = false := by simpa using e
      rw [e'] at h
      exact .tail _ (ih h)
theorem lookup_of {os : List (Int × Int)} (hn : (os.map (·.1)).Nodup) {c p : Int} (h : (c, p) ∈ os) : os.lookup c = some p := by
  induction os with
  | nil => cases h
  | cons x r ih =>
    rw [List.map_cons, List.nodup_cons] at hn
    rw [List.lookup_cons]
    rcases List.mem_cons.mp h with e | h
    · subst e; simp
    · have : (c == x.1) = false := by
        simp only [beq_eq_false_iff_ne, ne_eq]
        rintro rfl
        exact hn.1 (List.mem_map_of_mem (f := (·.1)) h)
      rw [this]; exact ih hn.2 h
theorem mem_downE {os : List (Int × Int)} {head : Int} {rk : Int → Nat} (h : TreeOK os head rk) {e : Int × Int} : e ∈ downE os ↔ e ∈ os := by
  unfold downE downF
  rw [List.mem_filterMap]
  constructor
  · rintro ⟨c, hc, he⟩
    obtain ⟨p, h1, rfl⟩ := Option.map_eq_some_iff.mp he
    exact lookup_mem h1
  · intro he
    exact ⟨e.1, mem_downs.mpr (h.rng e he), by rw [lookup_of h.kn (p := e.2) he]; rfl⟩
theorem downE_nodup (os : List (Int × Int)) : ((downE os).map (·.1)).Nodup := by
  unfold downE
  rw [List.map_filterMap]
  have : ∀ l : List Int, l.Nodup → (l.filterMap fun x => Option.map (·.1) (downF os x)).Nodup ∧ ∀ y ∈ l.filterMap fun x => Option.map (·.1) (downF os x), y ∈ l := by
    intro l
    induction l with
    | nil => intro _; exact ⟨.nil, fun y h => nomatch h⟩
    | cons x r ih =>
      intro hn
      rw [List.nodup_cons] at hn
      obtain ⟨i1, i2⟩ := ih hn.2
      rw [List.filterMap_cons]
      cases q : (downF os x).map (·.1) with
      | none => exact ⟨i1, fun y hy => .tail _ (i2 y hy)⟩
      | some z =>
        have hz : z = x := by
          unfold downF at q
          rw [Option.map_map] at q
          obtain ⟨p, _, e⟩ := Option.map_eq_some_iff.mp q
          exact e.symm
        subst hz
        refine ⟨List.nodup_cons.mpr ⟨fun q => hn.1 (i2 _ q), i1⟩, fun y hy => ?_⟩
        rcases List.mem_cons.mp hy with rfl | hy
        · exact .head _
        · exact .tail _ (i2 y hy)
  exact (this downs downs_nodup).1
/-- who is under x, the greatest first -/
noncomputable def childs (os : List (Int × Int)) (x : Int) : List Int := Ses (downE os) x
theorem mem_childs {os : List (Int × Int)} {head : Int} {rk : Int → Nat} (h : TreeOK os head rk) {c x : Int} : c ∈ childs os x ↔ (c, x) ∈ os := by
  unfold childs Ses
  rw [List.mem_map]
  constructor
  · rintro ⟨e, he, rfl⟩
    obtain ⟨e1, e2⟩ := List.mem_filter.mp he
    have e3 : e.2 = x := by simpa using e2
    subst e3
    exact (mem_downE h).mp e1
  · intro he
    exact ⟨(c, x), List.mem_filter.mpr ⟨(mem_downE h).mpr he, by simp⟩, rfl⟩
theorem childs_nodup (os : List (Int × Int)) (x : Int) : (childs os x).Nodup := by
  unfold childs Ses
  exact (downE_nodup os).sublist (List.filter_sublist.map _)
theorem downE_len (os : List (Int × Int)) : (downE os).length ≤ 16 := Nat.le_trans (List.length_filterMap_le ..) (by decide)

/-- the run from the tree -/
noncomputable def runT (ch : Int → List Int) : Nat → List Int → List (List Int)
  | 0, _ => []
  | f + 1, S => match S with
    | [] => []
    | x :: r => (x :: r) :: runT ch f (srt (r ++ ch x))
theorem runT_cons (ch : Int → List Int) (f : Nat) (x : Int) (r : List Int) : runT ch (f + 1) (x :: r) = (x :: r) :: runT ch f (srt (r ++ ch x)) := rfl
theorem runT_nil (ch : Int → List Int) (f : Nat) : runT ch f [] = [] := by cases f <;> rfl
end Mine
end
-- MP5
section
namespace Mine
structure HI (os : List (Int × Int)) (head : Int) (ns : List NI) (D hs rs : List Int) : Prop where
  nd : (keysN ns).Nodup
  rng : ∀ k ∈ keysN ns, 0 ≤ k ∧ k < 16
  kid : ∀ x, ∀ c ∈ childs os x, c ∈ keysN ns
  su : ∀ n ∈ ns, n.succ = childs os n.key
  hot : ∀ n ∈ ns, n.key ∈ hs → n.np = -1
  one : ∀ n ∈ ns, n.key ∉ D ++ hs ++ rs → n.np = 1
  dn : (D ++ hs ++ rs).Nodup
  sub : ∀ k ∈ D ++ hs ++ rs, k ∈ keysN ns
  par : ∀ c ∈ D ++ hs ++ rs, c = head ∨ ∃ p ∈ D, (c, p) ∈ os
theorem keys_of_mem {ns : List NI} {n : NI} (h : n ∈ ns) : n.key ∈ keysN ns := List.mem_map_of_mem h
theorem HI.len {os : List (Int × Int)} {head : Int} {ns : List NI} {D hs rs : List Int} (h : HI os head ns D hs rs) : D.length + hs.length + rs.length ≤ 16 := by
  have := nodup_sub_len h.dn (k := spots) fun x hx => mem_spots.mpr (h.rng x (h.sub x hx))
  simp [spots] at this
  omega
theorem HI.nlen {os : List (Int × Int)} {head : Int} {ns : List NI} {D hs rs : List Int} (h : HI os head ns D hs rs) : ns.length ≤ 16 := by
  have := nodup_sub_len h.nd (k := spots) fun x hx => mem_spots.mpr (h.rng x hx)
  unfold keysN at this
  simpa [spots] using this
theorem childs_len (os : List (Int × Int)) (x : Int) : (childs os x).length ≤ 16 := by
  unfold childs Ses
  rw [List.length_map]
  exact Nat.le_trans (List.length_filter_le ..) (downE_len os)
/-- all that were ready wait now -/
theorem HI.ready {os : List (Int × Int)} {head : Int} {ns : List NI} {D hs rs hs' : List Int} (h : HI os head ns D hs rs) (hp : hs'.Perm (hs ++ rs)) : HI os head (setKs ns rs (-1)) D hs' [] := by
  have hm : ∀ k, k ∈ D ++ hs' ++ [] ↔ k ∈ D ++ hs ++ rs := fun k => by
    rw [List.append_nil, List.append_assoc, List.mem_append, List.mem_append, hp.mem_iff]
  refine ⟨by rw [setKs_keys]; exact h.nd, by rw [setKs_keys]; exact h.rng, by rw [setKs_keys]; exact h.kid, fun n hn => ?_, fun n hn hk => ?_, fun n hn hk => ?_, ?_, fun k hk => by rw [setKs_keys]; exact h.sub k ((hm k).mp hk), fun c hc => h.par c ((hm c).mp hc)⟩
  · obtain ⟨n0, h0, a1, a2, a3, a4, a5, a6⟩ := mem_setKs hn
    rw [← a1, ← a3]; exact h.su n0 h0
  · obtain ⟨n0, h0, a1, a2, a3, a4, a5, a6⟩ := mem_setKs hn
    rcases List.mem_append.mp (hp.mem_iff.mp hk) with q | q
    · by_cases hr : n.key ∈ rs
      · rw [if_pos hr] at a6; exact a6
      · rw [if_neg hr] at a6; subst a6; exact h.hot _ h0 q
    · rw [if_pos q] at a6; exact a6
  · obtain ⟨n0, h0, a1, a2, a3, a4, a5, a6⟩ := mem_setKs hn
    rw [hm] at hk
    rw [if_neg (fun q => hk (List.mem_append_right _ q))] at a6
    subst a6
    exact h.one _ h0 hk
  · rw [List.append_nil, (hp.append_left D).nodup_iff, ← List.append_assoc]; exact h.dn
/-- one is done -/
theorem HI.done {os : List (Int × Int)} {head x : Int} {rk : Int → Nat} {ns : List NI} {D hs us : List Int} (T : TreeOK os head rk) (h : HI os head ns D hs []) (hp : (x :: us).Perm hs) :
    (∀ n ∈ ns, n.key ∈ childs os x → n.np = 1) ∧ HI os head (setKs (setK ns x (-2)) (childs os x) 0) (D ++ [x]) us (childs os x) := by
  have dn := h.dn
  rw [List.append_nil] at dn
  have hxh : x ∈ hs := hp.mem_iff.mp (.head _)
  have hxD : x ∉ D := fun q => (List.nodup_append.mp dn).2.2 x q x hxh rfl
  have hm : ∀ k, k ∈ D ++ [x] ++ us ↔ k ∈ D ++ hs := fun k => by
    rw [List.append_assoc, List.mem_append, List.mem_append (s := D) (t := hs), ← hp.mem_iff]
    exact Iff.rfl
  have hnew : ∀ c ∈ childs os x, c ∉ D ++ hs := fun c hc q => by
    have hcx := (mem_childs T).mp hc
    rcases h.par c (by rw [List.append_nil]; exact q) with rfl | ⟨p, hpD, hcp⟩
    · exact T.hd (List.mem_map_of_mem (f := (·.1)) hcx)
    · have := lookup_of T.kn hcp
      rw [lookup_of T.kn hcx] at this
      have := Option.some.inj this
      subst this; exact hxD hpD
  refine ⟨fun n hn hc => h.one n hn (by rw [List.append_nil]; exact hnew _ hc), ?_⟩
  have key2 : keysN (setKs (setK ns x (-2)) (childs os x) 0) = keysN ns := by rw [setKs_keys, setK_keys]
  refine ⟨by rw [key2]; exact h.nd, by rw [key2]; exact h.rng, by rw [key2]; exact h.kid, fun n hn => ?_, fun n hn hk => ?_, fun n hn hk => ?_, ?_, fun k hk => ?_, fun c hc => ?_⟩
  · obtain ⟨n0, h0, a1, a2, a3, a4, a5, a6⟩ := mem_setKs hn
    obtain ⟨n1, h1, b1, b2, b3, b4, b5, b6⟩ := mem_setK h0
    rw [← a1, ← b1, ← a3, ← b3]; exact h.su n1 h1
  · obtain ⟨n0, h0, a1, a2, a3, a4, a5, a6⟩ := mem_setKs hn
    have hkh : n.key ∈ hs := hp.mem_iff.mp (.tail _ hk)
    rw [if_neg (fun q => hnew _ q (List.mem_append_right _ hkh))] at a6
    subst a6
    obtain ⟨n1, h1, b1, b2, b3, b4, b5, b6⟩ := mem_setK h0
    have hne : n0.key ≠ x := by
      rintro e
      have := hp.nodup_iff.mpr (List.nodup_append.mp dn).2.1
      rw [List.nodup_cons] at this
      exact this.1 (e ▸ hk)
    rw [if_neg hne] at b6
    subst b6
    exact h.hot _ h1 hkh
  · obtain ⟨n0, h0, a1, a2, a3, a4, a5, a6⟩ := mem_setKs hn
    rw [List.mem_append, not_or, hm] at hk
    rw [if_neg hk.2] at a6
    subst a6
    obtain ⟨n1, h1, b1, b2, b3, b4, b5, b6⟩ := mem_setK h0
    have hne : n0.key ≠ x := by
      rintro e
      exact hk.1 (List.mem_append_right _ (e ▸ hxh))
    rw [if_neg hne] at b6
    subst b6
    exact h.one _ h1 (by rw [List.append_nil]; exact hk.1)
  · have p1 : (D ++ [x] ++ us).Perm (D ++ hs) := by
      rw [List.append_assoc]; exact List.Perm.append_left _ hp
    refine List.nodup_append.mpr ⟨p1.nodup_iff.mpr dn, childs_nodup os x, fun a ha b hb e => ?_⟩
    subst e
    exact hnew a hb ((hm a).mp ha)
  · rw [key2]
    rcases List.mem_append.mp hk with q | q
    · exact h.sub k (by rw [List.append_nil]; exact (hm k).mp q)
    · exact h.kid x k q
  · rcases List.mem_append.mp hc with q | q
    · rcases h.par c (by rw [List.append_nil]; exact (hm c).mp q) with e | ⟨p, h1, h2⟩
      · exact .inl e
      · exact .inr ⟨p, List.mem_append_left _ h1, h2⟩
    · exact .inr ⟨x, by simp, (mem_childs T).mp q⟩
theorem min_exists (os : List (Int × Int)) (f : Int × Int → Nat) (hne : os ≠ []) : ∃ p ∈ os, ∀ q ∈ os, f p ≤ f q := by
  induction os with
  | nil => exact absurd rfl hne
  | cons x r ih =>
    by_cases hr : r = []
    · subst hr; exact ⟨x, .head _, fun q hq => by rw [List.mem_singleton.mp hq]; exact Nat.le_refl _⟩
    · obtain ⟨p, hp, h⟩ := ih hr
      by_cases hl : f x ≤ f p
      · exact ⟨x, .head _, fun q hq => by
          rcases List.mem_cons.mp hq with rfl | hq
          · exact Nat.le_refl _
          · exact Nat.le_trans hl (h q hq)⟩
      · exact ⟨p, .tail _ hp, fun q hq => by
          rcases List.mem_cons.mp hq with rfl | hq
          · omega
          · exact h q hq⟩
theorem TreeOK.root {os : List (Int × Int)} {head : Int} {rk : Int → Nat} (T : TreeOK os head rk) : ∃ c, (c, head) ∈ os := by
  obtain ⟨p, hp, h⟩ := min_exists os (fun p => rk p.2) T.ne
  rcases T.up p hp with e | q
  · exact ⟨p.1, by rw [← e]; exact hp⟩
  · obtain ⟨q, hq, e⟩ := List.mem_map.mp q
    have a := T.rk q hq
    have b := h q hq
    rw [e] at a
    omega
theorem nodup_single {l : List Int} {x : Int} (hn : l.Nodup) (h1 : x ∈ l) (h2 : ∀ y ∈ l, y = x) : l = [x] := by
  match l, hn, h1, h2 with
  | [a], _, h1, h2 => rw [h2 a (.head _)]
  | a :: b :: r, hn, _, h2 =>
    have e1 := h2 a (.head _)
    have e2 := h2 b (.tail _ (.head _))
    rw [e1, e2] at hn
    simp at hn
theorem HI.start {os : List (Int × Int)} {head : Int} {rk : Int → Nat} {ns : List NI} (T : TreeOK os head rk) (hA : AddAll (downE os) ns) :
    ((ns.filter fun n => decide (n.np = 0)).map (·.key)) = [head] ∧ HI os head ns [] [] [head] ∧ (∀ n ∈ ns, ∀ c ∈ n.succ, c ∈ keysN ns ∧ rk n.key < rk c) := by
  have V := hA.vw
  have hmemF : ∀ k, (∃ p ∈ downE os, p.1 = k) ↔ k ∈ os.map (·.1) := fun k => by
    rw [List.mem_map]
    constructor
    · rintro ⟨p, hp, e⟩; exact ⟨p, (mem_downE T).mp hp, e⟩
    · rintro ⟨p, hp, e⟩; exact ⟨p, (mem_downE T).mpr hp, e⟩
  have hF0 : ∀ k, Fes (downE os) k = 0 ↔ k ∉ os.map (·.1) := fun k => by
    unfold Fes
    rw [← hmemF]
    constructor
    · intro h ⟨p, hp, e⟩
      have h0 : ((downE os).filter fun p => decide (p.1 = k)).length = 0 := by omega
      rw [List.length_eq_zero_iff] at h0
      have := List.filter_eq_nil_iff.mp h0 p hp
      simp [e] at this
    · intro h
      rw [List.filter_eq_nil_iff.mpr fun p hp => by simp; rintro rfl; exact h ⟨p, hp, rfl⟩]; rfl
  have hF1 : ∀ k, k ∈ os.map (·.1) → Fes (downE os) k = 1 := fun k hk => by
    have hnz : Fes (downE os) k ≠ 0 := fun q => (hF0 k).mp q hk
    have hle : ((downE os).filter fun p => decide (p.1 = k)).length ≤ 1 := by
      have hnd : (((downE os).filter fun p => decide (p.1 = k)).map (·.1)).Nodup := (downE_nodup os).sublist (List.filter_sublist.map _)
      have := nodup_sub_len hnd (k := [k]) fun x hx => by
        obtain ⟨p, hp, e⟩ := List.mem_map.mp hx
        have := (List.mem_filter.mp hp).2
        simp at this
        simp [← e, this]
      simpa using this
    unfold Fes at hnz ⊢
    omega
  have hK : ∀ k, k ∈ keysN ns ↔ k = head ∨ k ∈ os.map (·.1) := fun k => by
    rw [V.ks]
    unfold Kes
    rw [List.mem_append]
    constructor
    · rintro (q | q)
      · obtain ⟨p, hp, e⟩ := List.mem_map.mp q
        exact .inr ((hmemF k).mp ⟨p, hp, e⟩)
      · obtain ⟨p, hp, rfl⟩ := List.mem_map.mp q
        rcases T.up p ((mem_downE T).mp hp) with e | e
        · exact .inl e
        · exact .inr e
    · rintro (rfl | q)
      · obtain ⟨c, hc⟩ := T.root
        exact .inr (List.mem_map.mpr ⟨_, (mem_downE T).mpr hc, rfl⟩)
      · obtain ⟨p, hp, e⟩ := (hmemF k).mpr q
        exact .inl (List.mem_map.mpr ⟨p, hp, e⟩)
  have hnp : ∀ n ∈ ns, (n.np = 0 ↔ n.key = head) ∧ (n.key ≠ head → n.np = 1) := fun n hn => by
    have e1 := (V.nv n hn).1
    have hk := (hK n.key).mp (keys_of_mem hn)
    rw [e1, hF0]
    refine ⟨⟨fun q => hk.resolve_right q, fun q => q ▸ T.hd⟩, fun q => hF1 _ (hk.resolve_left q)⟩
  refine ⟨nodup_single ?_ ?_ ?_, ⟨V.nd, fun k hk => ?_, fun x c hc => ?_, fun n hn => (V.nv n hn).2, fun n hn hk => (nomatch hk), fun n hn hk => ?_, by simp, fun k hk => ?_, fun c hc => .inl (by simpa using hc)⟩, fun n hn c hc => ?_⟩
  · exact V.nd.sublist (List.filter_sublist.map _)
  · obtain ⟨n, hn, e⟩ := List.mem_map.mp ((hK head).mpr (.inl rfl))
    exact List.mem_map.mpr ⟨n, List.mem_filter.mpr ⟨hn, by simpa using (hnp n hn).1.mpr e⟩, e⟩
  · intro y hy
    obtain ⟨n, hn, e⟩ := List.mem_map.mp hy
    obtain ⟨h1, h2⟩ := List.mem_filter.mp hn
    rw [← e]
    exact (hnp n h1).1.mp (by simpa using h2)
  · rcases (hK k).mp hk with rfl | q
    · exact T.hrng
    · obtain ⟨p, hp, rfl⟩ := List.mem_map.mp q
      exact T.rng p hp
  · exact (hK c).mpr (.inr (List.mem_map_of_mem (f := (·.1)) ((mem_childs T).mp hc)))
  · exact (hnp n hn).2 (by simpa using hk)
  · rw [show k = head by simpa using hk]; exact (hK head).mpr (.inl rfl)
  · rw [(V.nv n hn).2] at hc
    have := (mem_childs T).mp hc
    exact ⟨(hK c).mpr (.inr (List.mem_map_of_mem (f := (·.1)) this)), T.rk _ this⟩
end Mine
end
-- MG10
section
open PySem PySem.W PyProof.Rows
set_option maxRecDepth 100000
set_option maxHeartbeats 4000000
namespace Mine

theorem downs_take {k : Nat} (h : k < 16) : downs.take (k + 1) = downs.take k ++ [15 + (k : Int) * (-1)] := by
  have : ∀ k : Fin 16, downs.take (k.val + 1) = downs.take k.val ++ [15 + (k.val : Int) * (-1)] := by decide
  exact this ⟨k, h⟩
theorem edE_append (a : List Ed) (e : Ed) : edE (a ++ [e]) = edE a ++ [(e.c, e.p)] := by unfold edE; simp
theorem edL_append (a : List Ed) (e : Ed) : edL (a ++ [e]) = edL a ++ [(e.la, isLI [e.p])] := by unfold edL; simp
theorem edD_append (a : List Ed) (e : Ed) : edD (a ++ [e]) = edD a ++ [(e.c, vref e.la)] := by unfold edD; simp
theorem edD_keys (a : List Ed) : (edD a).map (·.1) = (edE a).map (·.1) := by unfold edD edE; rw [List.map_map, List.map_map]; rfl
section
variable {prog : Program} {w : World} {A : Around} {E : Value → Shared → Prop} {s : Shared}
variable {g : Heap} {G : Array GenState} {O : OsState} {L : Addr} {m : List (Str × VP)} {objs : List (Addr × OP)}

/-- the middle part of the ledger alone is looked at -/
theorem St.mid {A B C : List (Addr × OP)} (I : St g G O L m (A ++ (B ++ C)) s) : ∃ g', St g' G O L m B s ∧ (∀ b o, g.get? b = some o → g'.get? b = some o) ∧
    ∀ m' objs' s', St g' G O L m' objs' s' → St g G O L m' (A ++ (objs' ++ C)) s' := by
  have I1 : St g G O L m (B ++ (A ++ C)) s := I.perm (by
    rw [← List.append_assoc, ← List.append_assoc]
    exact List.Perm.append_right _ List.perm_append_comm)
  obtain ⟨g', h1, h2, h3⟩ := I1.out
  refine ⟨g', h1, h2, fun m' objs' s' J => (h3 m' objs' s' J).perm ?_⟩
  rw [← List.append_assoc, ← List.append_assoc]
  exact List.Perm.append_right _ List.perm_append_comm

theorem St.reshape {P X F B : List (Addr × OP)} {t y : Addr × OP} (I : St g G O L m (P ++ (((X ++ [t]) ++ (F ++ B)) ++ [y])) s) : St g G O L m (P ++ (X ++ ((F ++ [y]) ++ B))) s := by
  have I1 : St g G O L m (P ++ ((X ++ (F ++ B)) ++ [y])) s := I.subO (List.Sublist.append_left (List.Sublist.append_right (List.Sublist.append_right (List.sublist_append_left ..) _) _) _)
  refine I1.perm (List.Perm.append_left _ ?_)
  rw [List.append_assoc, List.append_assoc, List.append_assoc]
  exact List.Perm.append_left _ (List.Perm.append_left _ List.perm_append_comm)
theorem app2 {α : Type _} (a : List α) (x y : α) : (a ++ [x]) ++ [y] = a ++ [x, y] := by simp
theorem handed_call {ov : Addr} {os : List (Int × Int)} {head : Int} {rk : Int → Nat} {fr0 : List (Addr × OP)} {fl : List Env} {Q : Value → Shared → Prop} (I : St g G O L m ((ov, isD prog w (os.map fun p => (p.1, isI p.2))) :: fr0) s) (hW : W w g) (hroom : A.depth < 850) (hh : A.handled = none) (hun : A.units < 9000)
    (hfl : A.frames = some fl) (hfi : ∀ es ep, FrIn (fr0 ++ [(L, isFrm (.dict es ep))]) fl) (T : TreeOK os head rk)
    (h : ∀ wa was s', was.length = (runT (childs os) 17 [head]).length → St g G O L m ((wa, isL (was.map vref)) :: (fam was (runT (childs os) 17 [head]) ++ ((ov, isD prog w (os.map fun p => (p.1, isI p.2))) :: fr0))) s' → Q (.ref wa) s') :
    wpAny (model prog w) A (call (.ref 284) [.ref ov]) Q E s := by
  refine call_fnCF (bs := [("over", .ref ov)]) (m' := []) I hW (by unfold recursionLimit; omega) rfl rfl rfl rfl rfl rfl rfl (by decide) trivial ?_
  intro g' L' s' env es0 ep0 HE hef hW' I' E'
  refine post_gen fun Q0 hQ0 => ?_
  dsimp only at HE I'
  have hfl' : (A.deeper env).frames = some (env :: fl) := by
    show pushEnvs [env] A.frames = _
    rw [hfl]; rfl
  have hek : env.scope.kind ≠ .module := by rw [HE.kind]; decide
  have I2 : St g' G O L' [] ((ov, isD prog w (os.map fun p => (p.1, isI p.2))) :: (L' + 1, isCell (vref ov)) :: (fr0 ++ [(L, isFrm (.dict es0 ep0))])) s' := I'.perm (by
    show ((ov, isD prog w (os.map fun p => (p.1, isI p.2))) :: ([(L' + 1, isCell (vref ov))] ++ (fr0 ++ [(L, isFrm (.dict es0 ep0))]))).Perm ((ov, isD prog w (os.map fun p => (p.1, isI p.2))) :: ((fr0 ++ [(L, isFrm (.dict es0 ep0))]) ++ [(L' + 1, isCell (vref ov))]))
    exact List.perm_append_comm.cons _)
  clear I'
  generalize L' + 1 = c at HE I2
  have hfi' : FrIn (fr0 ++ [(L, isFrm (.dict es0 ep0))]) fl := hfi es0 ep0
  generalize hFR : fr0 ++ [(L, isFrm (.dict es0 ep0))] = FR at I2 hfi'
  refine wpAny_execs_cons ?_; refine wpAny_Assign_Name ?_; refine wpAny_Call_NameR ?_; refine ldG (by assumption) (by assumption) (by assumption) (g_TS _) ?_; refine callWith_K (W.k (by assumption)) (by with_unfolding_all rfl) ?_; refine PyProof.Rows.args_cons ?_
  refine dcomp HE rfl ?_
  refine wpAny_Call_NameR ?_; refine ldB (by assumption) (by assumption) (by assumption) (g_range _) b_range ?_; refine PyProof.Rows.callWith_type1 ?_; refine PyProof.Rows.args_cons ?_; refine cI (by assumption) (fun _ _ _ => ?_); refine PyProof.Rows.args_cons ?_; refine wpAny_UnaryOp ?_; refine cI (by assumption) (fun _ _ _ => ?_); refine oNeg (by assumption) (fun _ _ _ => ?_); refine PyProof.Rows.args_cons ?_; refine wpAny_UnaryOp ?_; refine cI (by assumption) (fun _ _ _ => ?_); refine oNeg (by assumption) (fun _ _ _ => ?_); refine PyProof.Rows.args_nil ?_
  rename_i t6 s6 I6
  clear I2
  refine range3 I6 (by decide) (by decide) ?_
  intro r s7 I7
  refine iterRn 16 I7 last_get (by decide) (by decide) ?_
  intro it s8 I8
  clear I6 I7
  refine compD (It.range (by exact hh) it 15 (-1) 16) HE (fun k qs objs' => k ≤ 16 ∧ ∃ es : List Ed, edE es = (downs.take k).filterMap (downF os) ∧ qs = edD es ∧ objs' = ((ov, isD prog w (os.map fun p => (p.1, isI p.2))) :: (c, isCell (vref ov)) :: FR ++ [(r, isRng 15 (-1) (-1))]) ++ edL es)
    ⟨by omega, [], rfl, rfl, by rw [show edL [] = [] from rfl, List.append_nil]⟩ (fun k qs objs' h p hp => nomatch hp) (fun k qs objs' h => by
      obtain ⟨_, es, h1, rfl, _⟩ := h
      have := congrArg List.length h1
      unfold edE at this
      unfold edD
      rw [List.length_map] at this ⊢
      rw [this]
      refine Nat.le_trans (List.length_filterMap_le ..) (Nat.le_trans (List.length_take_le ..) (by omega))) I8 ?turn1 ?fin1
  case turn1 =>
    intro k g2 C cenv s10 qs objs2 hg2 HC hk hI I10 E2
    refine wpAny_tests_one ?_
    refine post_if fun Q1 hQ1 hQ2 => ?_
    obtain ⟨hk16, es, hes, rfl, rfl⟩ := hI
    have hW2 := hW'.keeps hg2
    have etk := downs_take hk
    have hnew : 15 + (k : Int) * (-1) ∉ (edD es).map (·.1) := by
      intro q
      rw [edD_keys, hes] at q
      obtain ⟨p, hp, e⟩ := List.mem_map.mp q
      obtain ⟨y, hy, e2⟩ := List.mem_filterMap.mp hp
      obtain ⟨z, _, e3⟩ := Option.map_eq_some_iff.mp e2
      have e4 : y = 15 + (k : Int) * (-1) := by rw [← e, ← e3]
      rw [e4] at hy
      have hd : (downs.take (k + 1)).Nodup := downs_nodup.sublist (List.take_sublist ..)
      rw [etk] at hd
      exact (List.nodup_append.mp hd).2.2 _ hy _ (.head _) rfl
    generalize 15 + (k : Int) * (-1) = y at *
    refine wpAny_isTrue_Compare1 ?_; refine ldI (by assumption) (by assumption) (by rfl) (fun _ => ?_)
    refine ldCV HC I10 rfl (i := 1) rfl ?_
    have hkeys : (os.map fun p => (p.1, isI p.2)).map (·.1) = os.map (·.1) := by rw [List.map_map]; rfl
    refine tInD I10 hW2 (i := 0) rfl ?_ ?_
    · intro hin s11 I11
      rw [hkeys] at hin
      obtain ⟨p, hp, rfl⟩ := List.mem_map.mp hin
      refine hQ1 _ ?_; refine ldI (by assumption) (by assumption) (by rfl) (fun _ => ?_); refine PyProof.Rows.List_ ?_; refine PyProof.Rows.args_cons ?_; refine Subscript_ ?_
      refine ldCV HC I11 rfl (i := 1) rfl ?_
      refine ldI (by assumption) (by assumption) (by rfl) (fun _ => ?_)
      refine subscrD (P := isI p.2) I11 (i := 0) rfl (List.mem_map.mpr ⟨p, hp, rfl⟩) ?_
      rintro _ s12 ⟨t12, rfl⟩ I12
      refine PyProof.Rows.args_nil ?_
      refine newL (ps := [isI p.2]) I12 (.one ⟨_, rfl⟩) ?_
      intro la s13 I13
      refine ⟨_, _, p.1, _, vref la, rfl, rfl, hnew, ⟨hk, es ++ [⟨p.1, la, p.2⟩], ?_, ?_, ?_⟩, I13⟩
      · rw [edE_append, hes, etk, List.filterMap_append]
        simp only [List.filterMap_cons, List.filterMap_nil, downF]
        rw [lookup_of T.kn (p := p.2) hp]
        rfl
      · rw [edD_append]
      · rw [edL_append, List.append_assoc]; rfl
    · intro hnin s11 I11
      rw [hkeys] at hnin
      refine hQ2 _ ⟨_, _, ⟨hk, es, ?_, rfl, rfl⟩, I11⟩
      rw [hes, etk, List.filterMap_append]
      simp only [List.filterMap_cons, List.filterMap_nil, downF]
      rw [show os.lookup y = none by
        cases q : os.lookup y with
        | none => rfl
        | some z => exact absurd (List.mem_map_of_mem (f := (·.1)) (lookup_mem q)) hnin]
      simp
  case fin1 =>
    rintro gd qs objs2 s10 ⟨_, es, hes, rfl, rfl⟩ I10
    clear I8
    rw [show downs.take 16 = downs from rfl] at hes
    have hes' : edE es = downE os := hes
    generalize hB : ((ov, isD prog w (os.map fun p => (p.1, isI p.2))) :: (c, isCell (vref ov)) :: FR ++ [(r, isRng 15 (-1) (-1))]) = B at I10
    have I11 : St g' G O L' [] (((gd, isD prog w (edD es)) :: edL es) ++ B) s10 := I10.perm (by
      rw [List.append_assoc]
      refine List.perm_append_comm.trans ?_
      exact List.Perm.append_left _ (List.perm_append_comm (l₁ := [(gd, isD prog w (edD es))])))
    clear I10
    refine PyProof.Rows.args_nil ?_; refine ⟨St.inK (by assumption) (by assumption), ?_⟩
    obtain ⟨g2, I12, hg2, back2⟩ := I11.out
    refine ts_new I12 (hW'.keeps hg2) (by simp only [Around.deeper]; omega) (by exact hh) (by
      have := congrArg List.length hes'
      unfold edE at this
      rw [List.length_map] at this
      have := downE_len os
      omega) ?_
    intro x dx nd ns s13 hadd I13
    have I14 := back2 _ _ _ I13
    rw [List.append_assoc] at I14
    have I15 : St g' G O L' [] (tsO prog w x dx nd (as0 nd (isV .none) 0 0) ns ++ B) s13 := I14.subO (List.Sublist.append_left (List.sublist_append_right ..) _)
    clear I11 I12 I13 I14 back2
    rw [hes'] at hadd
    obtain ⟨hroots, hHI, hrk⟩ := HI.start T hadd
    refine sto (P := isV _) (by assumption) (by assumption) rfl (fun _ _ => ?_); refine wpAny_execs_cons ?_; refine exprS (by assumption) ?_; refine methodCall_KW ?_; refine ldV (by assumption) (by assumption) (by rfl) ?_
    rename St _ _ _ _ _ _ _ => I16
    clear I15
    refine getM I16 hW' (i := 0) (j := 1) rfl rfl (by rfl) (f := 215) (by rfl) (by rfl) (by rfl) ?_
    refine callWith_K0 (St.inK (by assumption) (by assumption)) (by with_unfolding_all rfl) ?_
    refine prepare_call I16 hW' (by simp only [Around.deeper]; omega) (by exact hh) hfl' (fun es ep => ⟨hek, ⟨L', es, ep, hef, last_mem⟩, hfi'.mono fun p hp => ?_⟩) (by have := hHI.nlen; omega) (fun n hn => by rw [hHI.su n hn]; have := childs_len os n.key; omega) hHI.nd hrk ?_
    · rw [← hB]
      exact List.mem_append_left _ (List.mem_append_left _ (.tail _ (.tail _ hp)))
    intro ry s17 I17
    clear I16
    refine wpAny_execs_cons ?_
    refine Assign_Tuple_swapped (names := ["heap", "waits"]) ?_ rfl ((swapped_eq HE).trans rfl)
    refine PyProof.Rows.Tuple_ ?_; refine PyProof.Rows.args_cons ?_; refine PyProof.Rows.List_ ?_; refine PyProof.Rows.args_nil ?_
    refine newL (ps := []) I17 .nil (fun hp s18 I18 => ?_)
    refine PyProof.Rows.args_cons ?_; refine PyProof.Rows.List_ ?_; refine PyProof.Rows.args_nil ?_
    refine newL (ps := []) I18 .nil (fun wa s19 I19 => ?_)
    refine PyProof.Rows.args_nil ?_
    refine newT (ps := [vref hp, vref wa]) I19 (.cons rfl (.one rfl)) (fun TT s20 I20 => ?_)
    refine unpackSw2 (by exact hh) HE I20 last_get (fun s21 I21 => ?_)
    have I22 : St g' G O L' [nm "heap" (vref hp), nm "waits" (vref wa), nm "plan" (vref x)] ([(hp, isLI []), (wa, isL (([] : List Addr).map vref))] ++ ((tsO prog w x dx nd (as0 nd (vref ry) ((0 : Nat) + (0 : Nat)) (0 : Nat)) ns ++ [(ry, isLI [head])]) ++ (fam [] [] ++ B))) s21 := by
      have I23 := ((I21.cut rfl).loc (m' := [nm "heap" (vref hp), nm "waits" (vref wa), nm "plan" (vref x)]) ⟨⟨_, rfl, fun _ x => x⟩, ⟨_, rfl, fun _ x => x⟩, ⟨_, rfl, fun _ x => x⟩, trivial⟩)
      refine I23.perm ?_
      rw [show rootsN ns = [head] from hroots, show fam [] [] = [] from rfl, List.nil_append, List.append_assoc (_ ++ _), ← List.append_assoc (tsO prog w x dx nd (as0 nd (vref ry) 0 0) ns)]
      exact List.perm_append_comm (l₁ := [(hp, isL []), (wa, isL [])])
    clear I17 I18 I19 I20 I21
    refine wpAny_execs_cons ?_
    refine wpAny_While ?_
    refine codeAny_mono (R := fun r s23 => r = .ok .next ∧ ∃ was : List Addr, was.length = (runT (childs os) 17 [head]).length ∧ St g' G O L' [nm "heap" (vref hp), nm "waits" (vref wa), nm "plan" (vref x)] ((wa, isL (was.map vref)) :: (fam was (runT (childs os) 17 [head]) ++ B)) s23) ?loop ?aft
    case aft =>
      rintro rr s23 ⟨rfl, was, hwl, I23⟩
      refine wpAny_execs_cons ?_; refine wpAny_Return_some ?_; refine ldV (by assumption) (by assumption) (by rfl) ?_
      refine hQ0 _ _ ⟨_, _, (I23.subO (objs' := ((wa, isL (was.map vref)) :: (fam was (runT (childs os) 17 [head]) ++ ((ov, isD prog w (os.map fun p => (p.1, isI p.2))) :: fr0))) ++ [(L, isFrm (.dict es0 ep0))]) ?_), fun J => h wa was _ hwl J⟩
      rw [← hB, ← hFR]
      show List.Sublist ((wa, isL (was.map vref)) :: ((fam was (runT (childs os) 17 [head]) ++ ((ov, isD prog w (os.map fun p => (p.1, isI p.2))) :: fr0)) ++ [(L, isFrm (.dict es0 ep0))])) _
      rw [List.append_assoc]
      refine .cons_cons _ (List.Sublist.append_left ?_ _)
      exact .cons_cons _ (.cons _ (List.sublist_append_left ..))
    have hsrt1 : srt [head] = [head] := by simp [srt]
    refine whileQ (I := fun k s => ∃ (ns : List NI) (D hs rs : List Int) (was : List Addr) (wss : List (List Int)), k = 16 - D.length ∧ HI os head ns D hs rs ∧ IsH hs ∧ was.length = D.length ∧ wss.length = D.length ∧
      wss ++ runT (childs os) (17 - D.length) (srt (hs ++ rs)) = runT (childs os) 17 [head] ∧
      St g' G O L' [nm "heap" (vref hp), nm "waits" (vref wa), nm "plan" (vref x)] ([(hp, isLI hs), (wa, isL (was.map vref))] ++ ((tsO prog w x dx nd (as0 nd (vref ry) (D.length + hs.length) D.length) ns ++ [(ry, isLI rs)]) ++ (fam was wss ++ B))) s) ?_ 16
      ⟨ns, [], [], [head], [], [], rfl, hHI, (fun i hi hl => by simp at hl), rfl, rfl, by rw [List.nil_append, List.nil_append, hsrt1]; rfl, I22⟩
    clear I22 hrk hroots hHI hadd ns
    intro k s23 hI E1 B1 hB1 hBb hBr T1 hT1 hF1
    obtain ⟨ns, D, hs, rs, was, wss, hk, hHI, hH, hwa, hws, hrun, I23⟩ := hI
    have hl16 := hHI.len
    refine wpAny_isTrue_value ?_
    refine methodCall_KW ?_; refine ldV (by assumption) (by assumption) (by rfl) ?_
    refine getM I23 hW' (i := 2) (j := 3) rfl rfl (by rfl) (f := 229) (by rfl) (by rfl) (by rfl) ?_
    refine callWith_K0 (St.inK (by assumption) (by assumption)) (by with_unfolding_all rfl) ?_
    obtain ⟨g3, I24, hg3, back3⟩ := St.mid (A := [(hp, isLI hs), (wa, isL (was.map vref))]) (B := tsO prog w x dx nd (as0 nd (vref ry) (D.length + hs.length) D.length) ns ++ [(ry, isLI rs)]) (C := fam was wss ++ B) I23
    refine active_call I24 (hW'.keeps hg3) (by simp only [Around.deeper]; omega) (by omega) ?_
    intro s25 I25
    have I26 := back3 _ _ _ I25
    clear I23 I24 I25 back3
    refine wpAny_truthy_bool ?_
    by_cases hend : hs = [] ∧ rs = []
    · obtain ⟨rfl, rfl⟩ := hend
      rw [show (decide ((D.length : Int) < D.length + (([] : List Int).length : Nat)) || !([] : List Int).isEmpty) = false by simp]
      refine hF1 _ ?_
      rw [show srt ([] ++ []) = [] by simp [srt], runT_nil, List.append_nil] at hrun
      refine wpAny_execs_nil ⟨rfl, was, by rw [← hrun]; omega, ?_⟩
      rw [← hrun]
      exact I26.subO (.cons _ (.cons_cons _ (List.sublist_append_right ..)))
    · have hact : (decide ((D.length : Int) < D.length + (hs.length : Nat)) || !rs.isEmpty) = true := by
        cases hs with
        | cons y r => simp; omega
        | nil =>
          cases rs with
          | nil => exact absurd ⟨rfl, rfl⟩ hend
          | cons y r => simp
      rw [hact]
      refine hT1 _ ?_; refine wpAny_execs_cons ?_
      refine wpAny_For ?_
      refine methodCall_KW ?_; refine ldV (by assumption) (by assumption) (by rfl) ?_
      refine getM I26 hW' (i := 2) (j := 3) rfl rfl (by rfl) (f := 222) (by rfl) (by rfl) (by rfl) ?_
      refine callWith_K0 (St.inK (by assumption) (by assumption)) (by with_unfolding_all rfl) ?_
      obtain ⟨g4, I27, hg4, back4⟩ := St.mid (A := [(hp, isLI hs), (wa, isL (was.map vref))]) (B := tsO prog w x dx nd (as0 nd (vref ry) (D.length + hs.length) D.length) ns ++ [(ry, isLI rs)]) (C := fam was wss ++ B) I26
      refine ready_call I27 (hW'.keeps hg4) (by simp only [Around.deeper]; omega) (by exact hh) (by omega) (fun q hq => hHI.sub q (List.mem_append_right _ hq)) hHI.nd ?_
      intro TT2 s28 I28
      have I29 := back4 _ _ _ I28
      clear I26 I27 I28 back4
      generalize hRE : ((tsO prog w x dx nd (as0 nd (vref ry) (D.length + hs.length + rs.length) D.length) (setKs ns rs (-1)) ++ [(ry, isLI []), (TT2, isT (rs.map isI))]) ++ (fam was wss ++ B)) = RE at I29
      have hTm : (TT2, isT (rs.map isI)) ∈ RE := by rw [← hRE]; exact List.mem_append_left _ (List.mem_append_right _ (.tail _ (.head _)))
      obtain ⟨iT, hiT⟩ := List.mem_iff_getElem?.mp (List.mem_append_right [(hp, isLI hs), (wa, isL (was.map vref))] hTm)
      refine iterT I29 hiT ?_
      intro it2 s30 I30
      refine forI (It.tuple (by exact hh) it2 TT2 (rs.map isI)) HE (fun k m' objs' => m' = [nm "heap" (vref hp), nm "waits" (vref wa), nm "plan" (vref x)] ∧ ∃ vs, IsH vs ∧ vs.Perm (hs ++ rs.take k) ∧ objs' = [(hp, isLI vs), (wa, isL (was.map vref))] ++ RE)
        ⟨rfl, hs, hH, by simp, rfl⟩ (fun k m' objs' h p hp => by
          obtain ⟨_, vs, _, _, rfl⟩ := h
          rw [List.mem_singleton.mp hp]
          exact List.mem_append_right _ hTm) I30 ?turn3 ?fin3
      case turn3 =>
        intro k g5 m5 objs5 s31 hg5 hk5 hInv I31 E5
        refine post_gen fun Q1 hQ1 => ?_
        obtain ⟨rfl, vs, hHv, hpv, rfl⟩ := hInv
        have hk' : k < rs.length := by simpa using hk5
        have hW5 := hW'.keeps hg5
        have I32 := I31.loc (m' := [nm "guest" (isI (rs.getD k 0)), nm "heap" (vref hp), nm "waits" (vref wa), nm "plan" (vref x)]) ⟨⟨_, rfl, fun v hv => hv _ (isLI_get hk')⟩, ⟨_, rfl, fun _ x => x⟩, ⟨_, rfl, fun _ x => x⟩, ⟨_, rfl, fun _ x => x⟩, trivial⟩
        clear I31
        have etk : rs.take (k + 1) = rs.take k ++ [rs.getD k 0] := by rw [List.take_add_one]; simp [hk']
        generalize rs.getD k 0 = y at *
        have hvl : vs.length ≤ 40 := by
          rw [hpv.length_eq, List.length_append, List.length_take]; omega
        refine wpAny_execs_cons ?_; refine exprS (by assumption) ?_; refine wpAny_Call_NameR ?_; refine ldG (by assumption) (by assumption) (by assumption) (g_heappush _) ?_; refine callWith_K (W.k (by assumption)) (by with_unfolding_all rfl) ?_; refine PyProof.Rows.args_cons ?_; refine ldV (by assumption) (by assumption) (by rfl) ?_; refine PyProof.Rows.args_cons ?_; refine ldI (by assumption) (by assumption) (by rfl) (fun _ => ?_); refine PyProof.Rows.args_nil ?_; refine ⟨St.inK (by assumption) (by assumption), ?_⟩
        refine heappush_heap I32 hW5 (by simp only [Around.deeper]; omega) (i := 0) rfl (by omega) hHv ?_
        intro vs' s33 hHv' hpv' I33
        refine wpAny_execs_nil (hQ1 _ _ ⟨.inl rfl, _, _, ⟨rfl, vs', hHv', ?_, rfl⟩, I33.loc ⟨⟨_, rfl, fun _ x => x⟩, ⟨_, rfl, fun _ x => x⟩, ⟨_, rfl, fun _ x => x⟩, trivial⟩⟩)
        rw [etk, ← List.append_assoc]
        refine hpv'.trans ((hpv.cons y).trans ?_)
        exact List.perm_append_comm (l₁ := [y])
      case fin3 =>
        rintro m5 objs5 s31 ⟨rfl, vs, hHv, hpv, rfl⟩ I31
        rw [show rs.take (rs.map isI).length = rs by simp] at hpv
        clear I29 I30
        refine wpAny_execs_cons ?_; refine exprS (by assumption) ?_; refine methodCall_KW ?_; refine ldV (by assumption) (by assumption) (by rfl) ?_
        refine meth_of_on (appM I31 (i := 1) rfl ?_)
        refine wpAny_Call_NameR ?_; refine ldB (by assumption) (by assumption) (by assumption) (g_sorted _) b_sorted ?_; refine PyProof.Rows.callWith_builtin1 ?_; refine PyProof.Rows.args_cons ?_; refine ldV (by assumption) (by assumption) (by rfl) ?_; refine PyProof.Rows.args_nil ?_
        have hvlen := hpv.length_eq
        rw [List.length_append] at hvlen
        refine srtL I31 (i := 0) rfl (by omega) ?_
        intro sa s32 I32
        refine appL I32 (i := 1) rfl (P := vref sa) rfl ?_ (by simp; omega)
        intro s33 I33
        have hHI2 := hHI.ready hpv
        have hvpos : 0 < vs.length := by
          cases hs with
          | cons y r => simp at hvlen; omega
          | nil =>
            cases rs with
            | nil => exact absurd ⟨rfl, rfl⟩ hend
            | cons y r => simp at hvlen; omega
        obtain ⟨x1, r1, hxr⟩ : ∃ x r, srt vs = x :: r := by
          cases hq : srt vs with
          | nil => have := srt_length vs; rw [hq] at this; simp at this; omega
          | cons x r => exact ⟨x, r, rfl⟩
        rw [hxr] at I33
        have I34 : St g' G O L' [nm "heap" (vref hp), nm "waits" (vref wa), nm "plan" (vref x)] ([(hp, isLI vs), (wa, isL ((was ++ [sa]).map vref))] ++ ((tsO prog w x dx nd (as0 nd (vref ry) (D.length + hs.length + rs.length) D.length) (setKs ns rs (-1)) ++ [(ry, isLI [])]) ++ (fam (was ++ [sa]) (wss ++ [x1 :: r1]) ++ B))) s33 := by
          rw [fam_append (by omega), show (was ++ [sa]).map vref = was.map vref ++ [vref sa] by simp]
          refine St.reshape (t := (TT2, isT (rs.map isI))) (y := (sa, isLI (x1 :: r1))) (I33.cast ?_)
          rw [app2 (tsO ..) (ry, isLI []), ← hRE]
          rfl
        clear I31 I32 I33
        refine wpAny_execs_cons ?_; refine exprS (by assumption) ?_; refine methodCall_KW ?_; refine ldV (by assumption) (by assumption) (by rfl) ?_
        refine getM I34 hW' (i := 2) (j := 3) rfl rfl (by rfl) (f := 243) (by rfl) (by rfl) (by rfl) ?_
        refine callWith_K (W.k (by assumption)) (by with_unfolding_all rfl) ?_; refine PyProof.Rows.args_cons ?_; refine wpAny_Call_NameR ?_; refine ldG (by assumption) (by assumption) (by assumption) (g_heappop _) ?_; refine callWith_K (W.k (by assumption)) (by with_unfolding_all rfl) ?_; refine PyProof.Rows.args_cons ?_; refine ldV (by assumption) (by assumption) (by rfl) ?_; refine PyProof.Rows.args_nil ?_; refine ⟨St.inK (by assumption) (by assumption), ?_⟩
        refine heappop_heap I34 hW' (by simp only [Around.deeper]; omega) (i := 0) rfl (by omega) hHv hxr ?_
        intro t35 us s35 hHu hperm I35
        refine PyProof.Rows.args_nil ?_; refine ⟨St.inK (by assumption) (by assumption), ?_⟩
        obtain ⟨hone, hHI3⟩ := hHI2.done T hperm
        have hus := hperm.length_eq
        rw [List.length_cons] at hus
        have hxm : x1 ∈ keysN (setKs ns rs (-1)) := hHI2.sub x1 (by rw [List.append_nil]; exact List.mem_append_right _ (hperm.mem_iff.mp (.head _)))
        obtain ⟨n1, hn1, hn1k⟩ := List.mem_map.mp hxm
        have hsu := hHI2.su n1 hn1
        rw [hn1k] at hsu
        obtain ⟨g5, I36, hg5, back5⟩ := St.mid (A := [(hp, isLI us), (wa, isL ((was ++ [sa]).map vref))]) (B := tsO prog w x dx nd (as0 nd (vref ry) (D.length + hs.length + rs.length) D.length) (setKs ns rs (-1)) ++ [(ry, isLI [])]) (C := fam (was ++ [sa]) (wss ++ [x1 :: r1]) ++ B) I35
        refine done_call I36 (hW'.keeps hg5) (by simp only [Around.deeper]; omega) (by exact hh) (by simp) hn1 hn1k (hHI2.hot n1 hn1 (hn1k ▸ hperm.mem_iff.mp (.head _))) (hsu ▸ childs_nodup os x1) (by rw [hsu]; have := childs_len os x1; omega) (by rw [hsu]; exact hHI2.kid x1) (by rw [hsu]; exact hone) hHI2.nd ?_
        intro s37 I37
        have I38 := back5 _ _ _ I37
        clear I34 I35 I36 I37 back5
        rw [hsu, List.nil_append] at I38
        have hr1 : r1.Perm us := by
          have p1 := srt_perm vs
          rw [hxr] at p1
          exact List.Perm.cons_inv (p1.trans hperm.symm)
        have e1 : (D.length : Int) + hs.length + rs.length = ((D ++ [x1]).length : Nat) + (us.length : Nat) := by simp; omega
        have e2 : (D.length : Int) + 1 = ((D ++ [x1]).length : Nat) := by simp
        rw [e1, e2] at I38
        refine wpAny_execs_nil (hB1 _ _ (.inl rfl) ⟨16 - (D ++ [x1]).length, by simp; omega, _, D ++ [x1], us, childs os x1, was ++ [sa], wss ++ [x1 :: r1], rfl, hHI3, hHu, by simp [hwa], by simp [hws], ?_, I38⟩)
        rw [← hrun, srt_congr hpv.symm, hxr, List.length_append, List.length_singleton, show 17 - D.length = (17 - (D.length + 1)) + 1 by omega, runT_cons, List.append_assoc, srt_congr (hr1.symm.append_right _)]
        rfl
end
end Mine
end
-- MX3
section
open PySem PySem.W PyProof.Rows
set_option maxRecDepth 100000
set_option maxHeartbeats 4000000
namespace Mine

section
variable {prog : Program} {w : World} {A : Around} {E : Value → Shared → Prop} {s : Shared}
variable {g : Heap} {G : Array GenState} {O : OsState} {L : Addr} {m : List (Str × VP)} {objs : List (Addr × OP)} {env : Env} {names : List (Str × NameKind)} {cs : List (Str × Addr)}
theorem meth_on {name : Str} {pos : Pos} {ov : Value} {trees : List (Bool × Sem Value)} {kws : List (Option Str × Sem Value)} {pl : Sem Bool} {Q : Value → Shared → Prop} (h : MethodOn prog w A name pos ov trees Q E s) (hk : kws = [] := by with_unfolding_all rfl) :
    wpAny (model prog w) A (getMethod ov name pl) (fun fx s₂ => wpAny (model prog w) A (callWith pos fx.1 fx.2 trees kws) Q E s₂) E s := hk ▸ meth_of_on h
theorem methG {T : String} {name : Str} {id : String} {B : Builtin} {self : Value} {pos : Pos} {mm : Made} {Q : Value → Shared → Prop} (hp : PlainAttrs T) (slot : Slot T name id) (hty : typeOf (.builtin id) = pure (.type "method_descriptor")) (hT : s.TypeIs self T)
    (entry : entryFor table id = some B) (args : argsOk id ⟨[self], []⟩) (g : Gives (B ⟨[self], []⟩) mm) (hs : ∀ a, self ≠ .ref a) (h : mm.post Q s) : MethodOn prog w A name pos self [] Q E s :=
  ⟨T, id, hp, slot, hty, hT, fun a e => absurd e (hs a), method_gives slot entry rfl (PySem.evalArgs_none ⟨rfl, hT, args, mm, g, h⟩)⟩
theorem hexA_eq (b : Array UInt8) : hexA b = (b.toList.flatMap fun c => [Builtin.Bytes.hexDigit (c.toNat / 16), Builtin.Bytes.hexDigit (c.toNat % 16)]).toArray := by
  have key : ∀ (l : List UInt8) (i : Nat) (acc : Array Nat), (l.zipIdx i).foldl (fun (out : Array Nat) (c, i) => (out.push (Builtin.Bytes.hexDigit (c.toNat / 16))).push (Builtin.Bytes.hexDigit (c.toNat % 16))) acc =
      acc ++ (l.flatMap fun c => [Builtin.Bytes.hexDigit (c.toNat / 16), Builtin.Bytes.hexDigit (c.toNat % 16)]).toArray := by
    intro l
    induction l with
    | nil => intro i acc; simp
    | cons c r ih =>
      intro i acc
      rw [List.zipIdx_cons, List.foldl_cons, ih, List.flatMap_cons]
      apply Array.ext'
      simp
  unfold hexA
  rw [key]; simp
theorem hexA_size (b : Array UInt8) : (hexA b).size = 2 * b.size := by
  rw [hexA_eq]
  have : ∀ l : List UInt8, (l.flatMap fun c => [Builtin.Bytes.hexDigit (c.toNat / 16), Builtin.Bytes.hexDigit (c.toNat % 16)]).length = 2 * l.length := by
    intro l
    induction l with
    | nil => rfl
    | cons c r ih => rw [List.flatMap_cons, List.length_append, ih]; simp; omega
  simpa using this b.toList
theorem hexA_lt (b : Array UInt8) : ∀ c ∈ hexA b, c < 128 := by
  rw [hexA_eq]
  intro c hc
  have hc' : c ∈ b.toList.flatMap fun c => [Builtin.Bytes.hexDigit (c.toNat / 16), Builtin.Bytes.hexDigit (c.toNat % 16)] := by simpa using hc
  obtain ⟨x, _, hx⟩ := List.mem_flatMap.mp hc'
  have hd : ∀ n, n < 16 → Builtin.Bytes.hexDigit n < 128 := by decide
  have h1 : x.toNat / 16 < 16 := by have := x.toNat_lt; omega
  have h2 : x.toNat % 16 < 16 := by omega
  simp only [List.mem_cons, List.not_mem_nil, or_false] at hx
  rcases hx with rfl | rfl
  · exact hd _ h1
  · exact hd _ h2
theorem hexM {b : Array UInt8} {t : Tok} {pos : Pos} {Q : Value → Shared → Prop} (I : St g G O L m objs s) (hz : b.size ≤ 1000) (h : ∀ t' s', St g G O L m objs s' → Q (.str ⟨hexA b⟩ t') s') : MethodOn prog w A "hex" pos (.bytes b t) [] Q E s :=
  methG FB.plainAttrs_bytes FB.slot_bytes_hex FB.type_bytes_hex rfl FB.entry_bytes_hex (FB.args_bytes_hex_1 _) (gives_hex b t) (fun _ e => nomatch e) ⟨by show (hexA b).size ≤ sizeLine; rw [hexA_size, sizeLine_eq]; omega, h _ _ (I.tk _)⟩
theorem upperM {b : Array UInt8} {t : Tok} {pos : Pos} {Q : Value → Shared → Prop} (I : St g G O L m objs s) (hz : b.size ≤ 1000) (h : ∀ t' s', St g G O L m objs s' → Q (.bytes (b.toList.map Builtin.Bytes.toUpper).toArray t') s') : MethodOn prog w A "upper" pos (.bytes b t) [] Q E s :=
  methG FB.plainAttrs_bytes slot_upper type_upper rfl entry_upper (args_upper_1 _) (gives_upper b t) (fun _ e => nomatch e) ⟨by simp [sizeLine_eq]; omega, h _ _ (I.tk _)⟩
theorem encM {x : Str} {t : Tok} {e : Expr} {pos : Pos} {Q : Value → Shared → Prop} (hx : ∀ c ∈ x.cps, c < 128) (h16 : x.length = 16)
    (h : wpAny (model prog w) A (eval e env) (fun v s₂ => ∃ u, v = .str (Str.ofString "ascii") u ∧ Q (.bytes (asc x) s₂.toks) { s₂ with toks := s₂.toks + 1 }) E s) :
    MethodOn prog w A "encode" pos (.str x t) [(false, eval e env)] Q E s := by
  refine ⟨"str", "str.encode", F.plainAttrs_str, F.slot_str_encode, F.type_str_encode, rfl, (fun a e => nomatch e), method_gives F.slot_str_encode F.entry_str_encode rfl (Calls.evalArgs_plain (Calls.spliced_cons (wpAny_mono h (fun v s₂ h₂ => Calls.spliced_nil ?_) fun _ _ x => x)))⟩
  obtain ⟨u, rfl, hQ⟩ := h₂
  refine ⟨rfl, rfl, F.args_str_encode_2 _ _, _, gives_enc x t u hx h16, ?_, hQ⟩
  show (asc x).size ≤ sizeLine
  unfold asc
  rw [Array.size_map, sizeLine_eq]
  have : x.cps.size = 16 := h16
  omega
theorem cS {M : Model} {x : Str} {k : Nat} {pos : Pos} {Q : Value → Shared → Prop} (I : St g G O L m objs s) (h : ∀ t s', St g G O L m objs s' → Q (.str x t) s') : wpAny M A (eval (.Constant (.str x) k pos) env) Q E s :=
  wpAny_Constant_str (h _ _ (I.tk _))
theorem typeV {v : Value} {T : String} {Q : Value → Shared → Prop} (hT : s.TypeIs v T) (h : Q (.type T) s) (hn : (Value.type T == Value.type "builtin_function_or_method") = false := by rfl) : wpAny (model prog w) A (call (.type "type") [v]) Q E s :=
  call_type_of hT hn h

theorem buffer_call {b : Array UInt8} {t : Tok} {Q : Value → Shared → Prop} (I : St g G O L m objs s) (hW : W w g) (hroom : A.depth < 900) (h : ∀ s', St g G O L m objs s' → Q (.bytes b t) s') :
    wpAny (model prog w) A (call (.ref 106) [.bytes b t]) Q E s := by
  refine call_fn (bs := [("data", .bytes b t)]) I hW (by unfold recursionLimit; omega) rfl rfl rfl rfl (BindsTo.of_eq rfl) rfl rfl ?_
  intro g' L' s' env HE hW' I' E'
  refine post_gen fun Q0 hQ0 => ?_
  dsimp only at HE
  have I2 := I'.loc (m' := [("data", isV (.bytes b t))]) ⟨⟨_, rfl, fun _ x => x⟩, trivial⟩
  clear I'
  refine wpAny_execs_cons ?_; refine wpAny_Assign_Name ?_; refine wpAny_Call_NameR ?_; refine ldB (by assumption) (by assumption) (by assumption) (gx_type _) bx_type ?_; refine PyProof.Rows.callWith_type1 ?_; refine PyProof.Rows.args_cons ?_; refine ldV (by assumption) (by assumption) (by rfl) ?_; refine PyProof.Rows.args_nil ?_
  refine typeV rfl ?_
  refine sto (P := isV _) (by assumption) (by assumption) rfl (fun _ _ => ?_); refine wpAny_execs_cons ?_
  refine wpAny_If ?_
  refine wpAny_isTrue_Compare1 ?_; refine ldV (by assumption) (by assumption) (by rfl) ?_; refine ldB (by assumption) (by assumption) (by assumption) (gx_bytes _) bx_bytes ?_; refine wpAny_is_plain rfl (wpAny_truthy_bool ?_)
  rename St _ _ _ _ _ _ _ => I3
  rw [if_pos (show (Value.type "bytes" == Value.type "bytes") = true from by decide)]
  refine wpAny_execs_cons ?_; refine wpAny_Return_some ?_; refine ldV (by assumption) (by assumption) (by rfl) ?_
  exact hQ0 _ _ ⟨_, _, I3, fun J => h _ J⟩

theorem b2a_call {b : Array UInt8} {t : Tok} {Q : Value → Shared → Prop} (I : St g G O L m objs s) (hW : W w g) (hroom : A.depth < 890) (hb : b.size = 8) (h : ∀ t' s', St g G O L m objs s' → Q (.bytes (asc ⟨hexA b⟩) t') s') :
    wpAny (model prog w) A (call (.ref 115) [.bytes b t]) Q E s := by
  refine wpAny_call (code_fnV hW I (by unfold recursionLimit; omega) rfl rfl rfl rfl rfl ?_)
  refine binds_K (K := KF w) (binds := [("data", .bytes b t), ("sep", .ref 107), ("bytes_per_sep", .int 1 _)]) (I.inK hW) rfl rfl rfl rfl rfl _ _ _ _ ?_
  refine ⟨_, I, rfl, ?_⟩
  intro g' L' s' env HE hW' I' E'
  refine post_gen fun Q0 hQ0 => ?_
  dsimp only at HE
  have I2 := I'.loc (m' := [("data", isV (.bytes b t)), ("sep", vref 107), ("bytes_per_sep", isI 1)]) ⟨⟨_, rfl, fun _ x => x⟩, ⟨_, rfl, fun _ x => x⟩, ⟨_, rfl, fun _ x => ⟨_, x⟩⟩, trivial⟩
  clear I'
  refine wpAny_execs_cons ?_; refine wpAny_Assign_Name ?_; refine wpAny_Call_NameR ?_; refine ldG (by assumption) (by assumption) (by assumption) (gx_buffer _) ?_; refine callWith_K (W.k (by assumption)) (by with_unfolding_all rfl) ?_; refine PyProof.Rows.args_cons ?_; refine ldV (by assumption) (by assumption) (by rfl) ?_; refine PyProof.Rows.args_nil ?_; refine ⟨St.inK (by assumption) (by assumption), ?_⟩
  refine buffer_call I2 hW' (by simp only [Around.deeper]; omega) ?_
  intro s3 I3
  clear I2
  refine sto (P := isV _) (by assumption) (by assumption) rfl (fun _ _ => ?_); refine wpAny_execs_cons ?_
  rename St _ _ _ _ _ _ _ => I4
  clear I3
  refine wpAny_mono (Q := fun fl s5 => fl = .next ∧ St g' G O L' [nm "data" (isV (.bytes b t)), nm "sep" (vref 107)] objs s5) ?ifA ?ifB fun _ _ x => x
  case ifA =>
    refine wpAny_If ?_
    refine wpAny_isTrue_BoolOp ?_; refine wpAny_allTrue_Or_cons ?_; refine wpAny_isTrue_Compare1 ?_; refine wpAny_Call_NameR ?_; refine ldB (by assumption) (by assumption) (by assumption) (gx_type _) bx_type ?_; refine PyProof.Rows.callWith_type1 ?_; refine PyProof.Rows.args_cons ?_; refine ldI (by assumption) (by assumption) (by rfl) (fun _ => ?_); refine PyProof.Rows.args_nil ?_
    refine typeV rfl ?_
    refine ldB (by assumption) (by assumption) (by assumption) (gx_int _) bx_int ?_; refine wpAny_isNot_plain rfl (wpAny_truthy_bool ?_)
    rw [if_neg (show ¬ ((!(Value.type "int" == Value.type "int")) = true) from by decide)]
    refine wpAny_allTrue_Or_cons ?_; refine wpAny_isTrue_Compare1 ?_; refine ldI (by assumption) (by assumption) (by rfl) (fun _ => ?_); refine wpAny_UnaryOp ?_; refine cI (by assumption) (fun _ _ _ => ?_); refine oNeg (by assumption) (fun _ _ _ => ?_)
    refine tLt (fun q => absurd q (by decide)) (fun _ => ?_)
    refine ifF ?_; refine wpAny_allTrue_Or_cons ?_; refine wpAny_isTrue_Compare1 ?_; refine ldI (by assumption) (by assumption) (by rfl) (fun _ => ?_); refine cI (by assumption) (fun _ _ _ => ?_)
    refine tGt (fun q => absurd q (by decide)) (fun _ => ?_)
    refine ifF ?_; refine wpAny_allTrue_Or_nil ?_; refine ifF ?_
    rename St _ _ _ _ _ _ _ => I5
    exact wpAny_execs_nil ⟨rfl, I5.loc ⟨⟨_, rfl, fun _ x => x⟩, ⟨_, rfl, fun _ x => x⟩, trivial⟩⟩
  rintro fl s5 ⟨rfl, I5⟩
  clear I4
  refine wpAny_execs_cons ?_
  refine wpAny_If ?_
  refine wpAny_isTrue_Compare1 ?_; refine ldV (by assumption) (by assumption) (by rfl) ?_; refine ldG (by assumption) (by assumption) (by assumption) (gx_NO_SEP _) ?_
  refine wpAny_is_ref_self (wpAny_truthy_bool ?_)
  refine ifT ?_; refine wpAny_execs_cons ?_; refine wpAny_Return_some ?_; refine methodCall_KW ?_; refine methodCall_KW ?_; refine ldV (by assumption) (by assumption) (by rfl) ?_
  with_reducible refine meth_on ?_
  refine hexM I5 (by omega) ?_
  intro t6 s6 I6
  with_reducible refine meth_on ?_
  refine encM (hexA_lt b) (by show (hexA b).size = 16; rw [hexA_size]; omega) (cS I6 ?_)
  intro u s8 I8
  refine ⟨u, rfl, ?_⟩
  exact hQ0 _ _ ⟨_, _, I8.tk _, fun J => h _ _ J⟩

/-- the sixteen figures, written -/
noncomputable def enc16 (b : Array UInt8) : Array UInt8 := ((asc ⟨hexA b⟩).toList.map Builtin.Bytes.toUpper).toArray
theorem b16e_call {b : Array UInt8} {t : Tok} {Q : Value → Shared → Prop} (I : St g G O L m objs s) (hW : W w g) (hroom : A.depth < 880) (hb : b.size = 8) (h : ∀ t' s', St g G O L m objs s' → Q (.bytes (enc16 b) t') s') :
    wpAny (model prog w) A (call (.ref 136) [.bytes b t]) Q E s := by
  refine call_fn (bs := [("s", .bytes b t)]) I hW (by unfold recursionLimit; omega) rfl rfl rfl rfl (BindsTo.of_eq rfl) rfl rfl ?_
  intro g' L' s' env HE hW' I' E'
  refine post_gen fun Q0 hQ0 => ?_
  dsimp only at HE
  have I2 := I'.loc (m' := [("s", isV (.bytes b t))]) ⟨⟨_, rfl, fun _ x => x⟩, trivial⟩
  clear I'
  refine wpAny_execs_cons ?_; refine wpAny_Return_some ?_; refine methodCall_KW ?_; refine wpAny_Call_NameR ?_; refine ldG (by assumption) (by assumption) (by assumption) (gx_hexlify _) ?_; refine callWith_K (W.k (by assumption)) (by with_unfolding_all rfl) ?_; refine PyProof.Rows.args_cons ?_; refine ldV (by assumption) (by assumption) (by rfl) ?_; refine PyProof.Rows.args_nil ?_; refine ⟨St.inK (by assumption) (by assumption), ?_⟩
  refine b2a_call I2 hW' (by simp only [Around.deeper]; omega) hb ?_
  intro t3 s3 I3
  with_reducible refine meth_on ?_
  refine upperM I3 (by unfold asc; rw [Array.size_map]; show (hexA b).size ≤ 1000; rw [hexA_size]; omega) ?_
  intro t4 s4 I4
  exact hQ0 _ _ ⟨_, _, I4, fun J => h _ _ J⟩
end
end Mine
end
-- MX4
section
open PySem PySem.W PyProof.Rows
set_option maxRecDepth 100000
set_option maxHeartbeats 4000000
namespace Mine
open Builtin
noncomputable def hexUp (c : Nat) : Prop := (48 ≤ c ∧ c ≤ 57) ∨ (65 ≤ c ∧ c ≤ 70)
noncomputable def code0 : Array Nat := #[14, 12, 4, 1, 1, 21, 22, 48, 57, 22, 65, 70, 0, 13, 9, 21, 22, 48, 57, 22, 65, 70, 0, 1]
theorem inSet_hex (c : Nat) (hc : hexUp c) (seen : Sre.Seen) : ∃ seen', Sre.inSet code0 c code0.size 5 true seen = .ok (false, seen') := by
  have : c = 48 ∨ c = 49 ∨ c = 50 ∨ c = 51 ∨ c = 52 ∨ c = 53 ∨ c = 54 ∨ c = 55 ∨ c = 56 ∨ c = 57 ∨ c = 65 ∨ c = 66 ∨ c = 67 ∨ c = 68 ∨ c = 69 ∨ c = 70 := by
    have hlt : c < 71 := by unfold hexUp at hc; omega
    exact (show ∀ k : Fin 71, (48 ≤ k.val ∧ k.val ≤ 57 ∨ 65 ≤ k.val ∧ k.val ≤ 70) → (k.val = 48 ∨ k.val = 49 ∨ k.val = 50 ∨ k.val = 51 ∨ k.val = 52 ∨ k.val = 53 ∨ k.val = 54 ∨ k.val = 55 ∨ k.val = 56 ∨ k.val = 57 ∨ k.val = 65 ∨ k.val = 66 ∨ k.val = 67 ∨ k.val = 68 ∨ k.val = 69 ∨ k.val = 70) by decide) ⟨c, hlt⟩ hc
  rcases this with rfl | rfl | rfl | rfl | rfl | rfl | rfl | rfl | rfl | rfl | rfl | rfl | rfl | rfl | rfl | rfl <;> exact ⟨_, rfl⟩
theorem admitted_none (m : Sre.M) (hcode : m.code = code0) : ∀ (fuel s : Nat) (seen : Sre.Seen), (∀ i, s ≤ i → i < m.lim → hexUp (m.text.getD i 0)) → ∃ seen', Sre.M.admitted m fuel s seen = .ok (none, seen')
  | 0, s, seen, _ => ⟨_, rfl⟩
  | fuel + 1, s, seen, h => by
    unfold Sre.M.admitted
    by_cases hs : s ≥ m.lim
    · rw [if_pos hs]; exact ⟨_, rfl⟩
    · rw [if_neg hs]
      obtain ⟨seen1, e⟩ := inSet_hex _ (h s (Nat.le_refl _) (by omega)) seen
      rw [hcode, e]
      exact admitted_none m hcode fuel (s + 1) seen1 fun i h1 h2 => h i (by omega) h2
theorem search_false (text : Array Nat) (h0 : 0 < text.size) (h : ∀ i, i < text.size → hexUp (text.getD i 0)) : ∃ m : Sre.M, Sre.forSearch code0 text 0 0 text.size false = m ∧ m.answer = some false ∧ m.frames = [] ∧ m.outcome = none := by
  unfold Sre.forSearch
  rw [if_neg (by
    show ¬ ((decide (0 > text.size) || decide (text.size - 0 < 1)) = true)
    rw [decide_eq_false (by omega), decide_eq_false (by omega)]; decide)]
  unfold Sre.M.attemptFrom
  rw [if_neg (by show ¬ ((!true) = true); decide)]
  obtain ⟨seen', e⟩ := admitted_none { code := code0, text := text, lim := text.size, start := 0, lastStart := text.size, wholeText := false, mustAdvance := false, pc := 13, pos := 0, handed := 0, marks := #[], seen := ({} : Sre.Seen).add 14 } rfl (text.size + 1 - 0) 0 (({} : Sre.Seen).add 14) fun i _ hi => h i hi
  refine ⟨_, rfl, ?_⟩
  split
  · rename_i heq
    exact absurd (e.symm.trans heq) (by intro q; cases q)
  · exact ⟨rfl, rfl, rfl⟩
  · rename_i heq
    exact absurd (e.symm.trans heq) (by intro q; cases q)
theorem run_false {m : Sre.M} (h1 : m.answer = some false) (h2 : m.frames = []) (h3 : m.outcome = none) : ∃ m', m.runFor Re.reTurnSteps = m' ∧ m'.outcome = some .failed := by
  have hs : m.step = { m with outcome := some .failed } := by
    unfold Sre.M.step
    rw [h3, h1, h2]
    rfl
  refine ⟨_, rfl, ?_⟩
  show (Sre.M.runFor 4 m).outcome = _
  unfold Sre.M.runFor
  rw [h3]
  show (Sre.M.runFor 3 m.step).outcome = _
  rw [hs]
  rfl
section
variable {M : Model} {A : Around} {E : Value → Shared → Prop} {s : Shared}
theorem rules_pass {c : Nat → Bool} {n : Nat → String} {Q : Unit → Shared → Prop} (h : Q () s) : ∀ l : List Nat, wpAny M A (forIn l () fun i _ => if c i = true then do rule (n i); pure (ForInStep.yield ()) else pure (ForInStep.yield ())) Q E s
  | [] => by rw [List.forIn_nil]; exact wpAny_pure h
  | i :: r => by
    rw [List.forIn_cons]
    refine wpAny_bind ?_
    by_cases hc : c i = true
    · rw [if_pos hc]; exact wpAny_bind (wpAny_rule (wpAny_pure (rules_pass h r)))
    · rw [if_neg hc]; exact wpAny_pure (rules_pass h r)
theorem run_none {m : Sre.M} {Q : Option Sre.M → Shared → Prop} (h1 : m.answer = some false) (h2 : m.frames = []) (h3 : m.outcome = none) (h : Q none s) : wpAny M A (Re.reRunToEnd m) Q E s := by
  obtain ⟨m', e1, e2⟩ := run_false h1 h2 h3
  unfold Re.reRunToEnd
  refine wpAny_bind ?_
  rw [show (2 : Nat) ^ 64 = 18446744073709551615 + 1 from rfl]
  unfold Re.reDrive
  dsimp only
  rw [e1, if_pos (by rw [e2]; rfl)]
  refine wpAny_pure ?_
  refine wpAny_bind (rules_pass (c := fun i => m'.seen.has i) (n := fun i => Sre.names.getD i "") ?_ _)
  rw [e2]
  exact wpAny_pure h
theorem slot_search : Slot "re.Pattern" "search" "re.Pattern.search" :=
  .of (owner := "re.Pattern") (n := "search") (by rw [typeLookup_type, builtinLookup_eq_fast]; kernel_rfl) (by decide +kernel) (by decide +kernel) (by decide +kernel)
    (by first | exact .inl (by decide +kernel) | exact .inr (by decide +kernel)) (by rw [isSubtype_type]; kernel_rfl)
theorem type_search : typeOf (.builtin "re.Pattern.search") = pure (.type "method_descriptor") := by show builtinType _ = _; rw [builtinType_eq_fast]; kernel_rfl
theorem entry_search : entryFor table "re.Pattern.search" = some Builtin.«re.Pattern.search» := entryFor_of_tree (by kernel_rfl)
theorem args_search (a b : Value) : argsOk "re.Pattern.search" ⟨[a, b], []⟩ := by unfold argsOk; kernel_rfl
theorem plain_re : PlainAttrs "re.Pattern" := ⟨⟨"object.__getattribute__", by rw [typeLookup_type, builtinLookup_eq_fast]; kernel_rfl, by decide +kernel⟩, by rw [typeLookup_type, builtinLookup_eq_fast]; kernel_rfl⟩
noncomputable abbrev reO (k : Addr) (b : Array UInt8) (t1 t2 : Tok) : Obj := { cls := .type "re.Pattern", data := .fields #[.bytes b t1, .int 0 t2, .int 0 0, .none, .none, .ref k, .int 1 0] }
noncomputable abbrev reC : Obj := { cls := .type "tuple", data := .seq #[Value.int 14 0, Value.int 12 0, Value.int 4 0, Value.int 1 0, Value.int 1 0, Value.int 21 0, Value.int 22 0, Value.int 48 0, Value.int 57 0, Value.int 22 0, Value.int 65 0, Value.int 70 0, Value.int 0 0, Value.int 13 0, Value.int 9 0, Value.int 21 0, Value.int 22 0, Value.int 48 0, Value.int 57 0, Value.int 22 0, Value.int 65 0, Value.int 70 0, Value.int 0 0, Value.int 1 0] }
theorem search_body {b pb : Array UInt8} {t t1 t2 : Tok} {a k : Addr} {Q : Fin → Shared → Prop} (ha : s.heap.get? a = some (reO k pb t1 t2)) (hk : s.heap.get? k = some reC) (h0 : 0 < b.size) (hz : b.size ≤ 1000) (hb : ∀ i, i < b.size → hexUp (b.getD i 0).toNat) (h : Q (.done (.ret .none)) s) :
    wpAny M A (Builtin.«re.Pattern.search» ⟨[.ref a, .bytes b t], []⟩) Q E s := by
  unfold Builtin.«re.Pattern.search» Re.reTarget
  refine wpAny_bind ?_
  refine wpAny_bind (wpAny_of_eq (a := [some (.bytes b t), none, none]) (by first | rfl | kernel_rfl) ?_)
  refine wpAny_bind (wpAny_of_eq (a := (0 : Int)) rfl ?_)
  refine wpAny_bind (wpAny_of_eq (a := (2 ^ 63 - 1 : Int)) rfl ?_)
  refine wpAny_bind (wpAny_bind (wpAny_load ha (wpAny_pure ?_)))
  have htx : Re.reTextOf (.bytes b t) = pure (b.map (·.toNat), 1) := by
    unfold Re.reTextOf
    rw [KBy.quiet_eq]
    rfl
  refine wpAny_bind (wpAny_of_eq htx ?_)
  dsimp only
  have hcl : Re.reNoCollectionInside (.bytes b t) 1 = pure () := by
    unfold Re.reNoCollectionInside
    rw [KBy.isInstance_eq]
    rfl
  rw [if_neg (by show ¬ (false = true); decide), if_neg (by show ¬ (false = true); decide)]
  refine wpAny_bind (wpAny_of_eq hcl ?_)
  have hit : wpAny M A (Re.reRawItems (.ref k)) (fun r s' => r = (code0.map fun (n : Nat) => (n : Int)) ∧ s' = s) E s := by
    unfold Re.reRawItems
    refine wpAny_bind ?_
    show wpAny M A (load k >>= _) _ E s
    refine wpAny_bind (wpAny_load hk (wpAny_pure (wpAny_pure ⟨?_, rfl⟩)))
    simp [code0, Re.reRawOf]
  refine wpAny_bind (wpAny_mono hit (fun r s' hr => ?_) fun _ _ x => x)
  obtain ⟨rfl, rfl⟩ := hr
  refine wpAny_pure ?_
  unfold Re.reAnswer
  have hsz : (b.map (·.toNat)).size = b.size := by simp
  obtain ⟨m, e1, e2, e3, e4⟩ := search_false (b.map (·.toNat)) (by rw [hsz]; exact h0) (fun i hi => by
    have := hb i (by rw [hsz] at hi; exact hi)
    rw [hsz] at hi
    have e : (b.map (·.toNat)).getD i 0 = (b.getD i 0).toNat := by simp [Array.getD, hi]
    rw [e]; exact this)
  have hm : Sre.forSearch (Array.map (fun x => x.toNat) (code0.map fun (n : Nat) => (n : Int))) (b.map (·.toNat)) 0 (Min.min (Int.toNat 0) (b.map (·.toNat)).size) (Min.min (Int.toNat (2 ^ 63 - 1)) (b.map (·.toNat)).size) false = m := by
    have c1 : Array.map (fun x => x.toNat) (code0.map fun (n : Nat) => (n : Int)) = code0 := by simp [code0]
    rw [c1, show Min.min (Int.toNat 0) (b.map (·.toNat)).size = 0 from by simp, show Min.min (Int.toNat (2 ^ 63 - 1)) (b.map (·.toNat)).size = (b.map (·.toNat)).size from by rw [hsz]; exact Nat.min_eq_right (by omega)]
    exact e1
  refine wpAny_bind ?_
  dsimp only
  have hg : Re.reRawNat (#[Value.bytes pb t1, Value.int 0 t2, Value.int 0 0, Value.none, Value.none, Value.ref k, Value.int 1 0].getD 2 Value.none) = 0 := rfl
  rw [hg, hm]
  exact run_none e2 e3 e4 (wpAny_pure h)
end
end Mine
end
-- MX5
section
open PySem PySem.W PyProof.Rows
set_option maxRecDepth 100000
set_option maxHeartbeats 4000000
namespace Mine

noncomputable def hv (c : Int) : Int := if c ≤ 57 then c - 48 else c - 55
noncomputable def hexI (c : Int) : Prop := (48 ≤ c ∧ c ≤ 57) ∨ (65 ≤ c ∧ c ≤ 70)
theorem hv_range {c : Int} (h : hexI c) : 0 ≤ hv c ∧ hv c < 16 := by
  unfold hexI at h; unfold hv; split <;> omega
noncomputable def pairs (ks : List Int) (n : Nat) : List Int := (List.range n).map fun i => hv (ks.getD (2 * i) 0) * 16 + hv (ks.getD (2 * i + 1) 0)
theorem pairs_snoc (ks : List Int) (n : Nat) : pairs ks (n + 1) = pairs ks n ++ [hv (ks.getD (2 * n) 0) * 16 + hv (ks.getD (2 * n + 1) 0)] := by
  unfold pairs; rw [List.range_succ, List.map_append]; rfl
section
variable {prog : Program} {w : World} {A : Around} {E : Value → Shared → Prop} {s : Shared}
variable {g : Heap} {G : Array GenState} {O : OsState} {L : Addr} {m : List (Str × VP)} {objs : List (Addr × OP)} {env : Env} {names : List (Str × NameKind)} {cs : List (Str × Addr)}
theorem tLe {a b : Int} {t u : Tok} {Q : Bool → Shared → Prop} (h1 : a ≤ b → Q true s) (h2 : ¬ a ≤ b → Q false s) :
    wpAny (model prog w) A (compareOp .LtE (.int a t) (.int b u)) (fun c s₃ => wpAny (model prog w) A (truthy c) Q E s₃) E s := by
  refine PyProof.Rows.le_int (wpAny_truthy_bool ?_)
  by_cases hc : a ≤ b
  · rw [decide_eq_true hc]; exact h1 hc
  · rw [decide_eq_false hc]; exact h2 hc
theorem tGe {a b : Int} {t u : Tok} {Q : Bool → Shared → Prop} (h1 : b ≤ a → Q true s) (h2 : ¬ b ≤ a → Q false s) :
    wpAny (model prog w) A (compareOp .GtE (.int a t) (.int b u)) (fun c s₃ => wpAny (model prog w) A (truthy c) Q E s₃) E s := by
  refine PyProof.Rows.ge_int (wpAny_truthy_bool ?_)
  by_cases hc : b ≤ a
  · rw [decide_eq_true hc]; exact h1 hc
  · rw [decide_eq_false hc]; exact h2 hc
theorem searchM {b : Array UInt8} {e : Expr} {pos : Pos} {Q : Value → Shared → Prop} (I : St g G O L m objs s) (hW : W w g) (h0 : 0 < b.size) (hz : b.size ≤ 1000) (hb : ∀ i, i < b.size → hexUp (b.getD i 0).toNat)
    (h : wpAny (model prog w) A (eval e env) (fun v s₂ => ∃ t, v = .bytes b t ∧ St g G O L m objs s₂ ∧ Q .none s₂) E s) :
    MethodOn prog w A "search" pos (.ref 71) [(false, eval e env)] Q E s := by
  have h71 : s.heap.get? 71 = some (reO 70 #[91, 94, 48, 45, 57, 65, 45, 70, 93] 336 363) := (I.inK hW) 71 _ rfl
  refine ⟨"re.Pattern", "re.Pattern.search", plain_re, slot_search, type_search, ⟨_, h71, rfl⟩, (fun a e => by cases e; exact ⟨_, h71, rfl⟩), Calls.callWith_builtin rfl (Calls.evalArgs_plain (Calls.spliced_cons (wpAny_mono h (fun v s₂ h₂ => Calls.spliced_nil ?_) fun _ _ x => x)))⟩
  obtain ⟨t, rfl, I2, hq⟩ := h₂
  have h71' : s₂.heap.get? 71 = some (reO 70 #[91, 94, 48, 45, 57, 65, 45, 70, 93] 336 363) := (I2.inK hW) 71 _ rfl
  have h70' : s₂.heap.get? 70 = some reC := (I2.inK hW) 70 _ rfl
  have hT : s₂.TypeIs (.ref 71) "re.Pattern" := ⟨_, h71', rfl⟩
  exact wpAny_call (codeAny_call_builtin slot_search.plain entry_search (slot_search.check _ _ _ _ _ _ _ _ hT (args_search _ _) (search_body h71' h70' h0 hz hb hq)))

theorem hexv_call {c : Int} {t : Tok} {Q : Value → Shared → Prop} (I : St g G O L m objs s) (hW : W w g) (hroom : A.depth < 900) (hc : hexI c) (h : ∀ t' s', St g G O L m objs s' → Q (.int (hv c) t') s') :
    wpAny (model prog w) A (call (.ref 122) [.int c t]) Q E s := by
  refine call_fn (bs := [("c", .int c t)]) I hW (by unfold recursionLimit; omega) rfl rfl rfl rfl (BindsTo.of_eq rfl) rfl rfl ?_
  intro g' L' s' env HE hW' I' E'
  refine post_gen fun Q0 hQ0 => ?_
  dsimp only at HE
  have I2 := I'.loc (m' := [("c", isI c)]) ⟨⟨_, rfl, fun _ x => ⟨_, x⟩⟩, trivial⟩
  clear I'
  refine wpAny_execs_cons ?_
  refine wpAny_If ?_
  refine PyProof.Rows.isTrue_chain ?_; refine cI (by assumption) (fun _ _ _ => ?_)
  refine PyProof.Rows.test_link ?_
  refine ldI (by assumption) (by assumption) (by rfl) (fun _ => ?_)
  refine tLe (fun _ => ?_) (fun q => absurd q (by unfold hexI at hc; omega))
  refine ifT ?_
  refine PyProof.Rows.test_last ?_
  refine cI (by assumption) (fun _ _ _ => ?_)
  refine tLe (fun hle => ?_) (fun hle => ?_)
  · refine ifT ?_; refine wpAny_execs_cons ?_; refine wpAny_Return_some ?_; refine wpAny_BinOp ?_; refine ldI (by assumption) (by assumption) (by rfl) (fun _ => ?_); refine cI (by assumption) (fun _ _ _ => ?_); refine oSub (by assumption) (fun _ _ _ => ?_)
    rename St _ _ _ _ _ _ _ => I3
    refine hQ0 _ _ ⟨_, _, I3, fun J => ?_⟩
    have e : c - 48 = hv c := by unfold hv; rw [if_pos hle]
    rw [e]
    exact h _ _ J
  · refine ifF ?_
    refine wpAny_execs_nil ?_
    refine wpAny_execs_cons ?_
    refine wpAny_If ?_
    refine PyProof.Rows.isTrue_chain ?_; refine cI (by assumption) (fun _ _ _ => ?_)
    refine PyProof.Rows.test_link ?_
    refine ldI (by assumption) (by assumption) (by rfl) (fun _ => ?_)
    refine tLe (fun _ => ?_) (fun q => absurd q (by unfold hexI at hc; omega))
    refine ifT ?_
    refine PyProof.Rows.test_last ?_
    refine cI (by assumption) (fun _ _ _ => ?_)
    refine tLe (fun _ => ?_) (fun q => absurd q (by unfold hexI at hc; omega))
    refine ifT ?_; refine wpAny_execs_cons ?_; refine wpAny_Return_some ?_; refine wpAny_BinOp ?_; refine ldI (by assumption) (by assumption) (by rfl) (fun _ => ?_); refine cI (by assumption) (fun _ _ _ => ?_); refine oSub (by assumption) (fun _ _ _ => ?_)
    rename St _ _ _ _ _ _ _ => I3
    refine hQ0 _ _ ⟨_, _, I3, fun J => ?_⟩
    have e : c - 55 = hv c := by unfold hv; rw [if_neg hle]
    rw [e]
    exact h _ _ J
end
end Mine
end
-- MX6
section
open PySem PySem.W PyProof.Rows
set_option maxRecDepth 100000
set_option maxHeartbeats 4000000
namespace Mine

section
variable {prog : Program} {w : World} {A : Around} {E : Value → Shared → Prop} {s : Shared}
variable {g : Heap} {G : Array GenState} {O : OsState} {L : Addr} {m : List (Str × VP)} {objs : List (Addr × OP)} {env : Env} {names : List (Str × NameKind)} {cs : List (Str × Addr)}
theorem ascb_call {b : Array UInt8} {t : Tok} {Q : Value → Shared → Prop} (I : St g G O L m objs s) (hW : W w g) (hroom : A.depth < 900) (h : ∀ s', St g G O L m objs s' → Q (.bytes b t) s') :
    wpAny (model prog w) A (call (.ref 99) [.bytes b t]) Q E s := by
  refine call_fn (bs := [("data", .bytes b t)]) I hW (by unfold recursionLimit; omega) rfl rfl rfl rfl (BindsTo.of_eq rfl) rfl rfl ?_
  intro g' L' s' env HE hW' I' E'
  refine post_gen fun Q0 hQ0 => ?_
  dsimp only at HE
  have I2 := I'.loc (m' := [("data", isV (.bytes b t))]) ⟨⟨_, rfl, fun _ x => x⟩, trivial⟩
  clear I'
  refine wpAny_execs_cons ?_; refine wpAny_Assign_Name ?_; refine wpAny_Call_NameR ?_; refine ldB (by assumption) (by assumption) (by assumption) (gx_type _) bx_type ?_; refine PyProof.Rows.callWith_type1 ?_; refine PyProof.Rows.args_cons ?_; refine ldV (by assumption) (by assumption) (by rfl) ?_; refine PyProof.Rows.args_nil ?_
  refine typeV rfl ?_
  refine sto (P := isV _) (by assumption) (by assumption) rfl (fun _ _ => ?_); refine wpAny_execs_cons ?_
  refine wpAny_If ?_
  refine wpAny_isTrue_Compare1 ?_; refine ldV (by assumption) (by assumption) (by rfl) ?_; refine ldB (by assumption) (by assumption) (by assumption) (gx_str _) bx_str ?_; refine wpAny_is_plain rfl (wpAny_truthy_bool ?_)
  rename St _ _ _ _ _ _ _ => I3
  rw [if_neg (show ¬ ((Value.type "bytes" == Value.type "str") = true) from by decide)]
  refine wpAny_execs_nil ?_
  refine wpAny_execs_cons ?_
  refine wpAny_If ?_
  refine wpAny_isTrue_Compare1 ?_; refine ldV (by assumption) (by assumption) (by rfl) ?_; refine ldB (by assumption) (by assumption) (by assumption) (gx_bytes _) bx_bytes ?_; refine wpAny_is_plain rfl (wpAny_truthy_bool ?_)
  rw [if_pos (show (Value.type "bytes" == Value.type "bytes") = true from by decide)]
  refine wpAny_execs_cons ?_; refine wpAny_Return_some ?_; refine ldV (by assumption) (by assumption) (by rfl) ?_
  exact hQ0 _ _ ⟨_, _, I3, fun J => h _ J⟩
theorem isiOne {b : Array UInt8} {t : Tok} {T : String} {r : Bool} {Q : Value → Shared → Prop} (I : St g G O L m objs s) (hW : W w g) (e : kitOne (KF w) (.type "bytes") (.type T) = some r) (h : ∀ s', St g G O L m objs s' → Q (.bool r) s') :
    wpAny (model prog w) A (call (.builtin "isinstance") [.bytes b t, .type T]) Q E s :=
  kia_one (K := KF w) kitx_bytes (I.inK hW) trivial e (fun q => nomatch q) fun tk => h _ (I.tk _)
theorem bfdd_call {b : Array UInt8} {t : Tok} {Q : Value → Shared → Prop} (I : St g G O L m objs s) (hW : W w g) (hroom : A.depth < 900) (h : ∀ s', St g G O L m objs s' → Q (.bytes b t) s') :
    wpAny (model prog w) A (call (.ref 79) [.bytes b t]) Q E s := by
  refine call_fn (bs := [("s", .bytes b t)]) I hW (by unfold recursionLimit; omega) rfl rfl rfl rfl (BindsTo.of_eq rfl) rfl rfl ?_
  intro g' L' s' env HE hW' I' E'
  refine post_gen fun Q0 hQ0 => ?_
  dsimp only at HE
  have I2 := I'.loc (m' := [("s", isV (.bytes b t))]) ⟨⟨_, rfl, fun _ x => x⟩, trivial⟩
  clear I'
  refine wpAny_execs_cons ?_
  refine wpAny_If ?_
  refine wpAny_isTrue_value ?_; refine wpAny_Call_NameR ?_; refine ldB (by assumption) (by assumption) (by assumption) (gx_isinstance _) bx_isinstance ?_; refine PyProof.Rows.callWith_builtin1 ?_; refine PyProof.Rows.args_cons ?_; refine ldV (by assumption) (by assumption) (by rfl) ?_; refine PyProof.Rows.args_cons ?_; refine ldB (by assumption) (by assumption) (by assumption) (gx_str _) bx_str ?_; refine PyProof.Rows.args_nil ?_
  refine isiOne I2 hW' (by rfl) ?_
  intro s3 I3
  refine wpAny_truthy_bool ?_
  refine wpAny_execs_nil ?_
  refine wpAny_execs_cons ?_
  refine wpAny_If ?_
  refine wpAny_isTrue_value ?_; refine wpAny_Call_NameR ?_; refine ldB (by assumption) (by assumption) (by assumption) (gx_isinstance _) bx_isinstance ?_; refine PyProof.Rows.callWith_builtin1 ?_; refine PyProof.Rows.args_cons ?_; refine ldV (by assumption) (by assumption) (by rfl) ?_; refine PyProof.Rows.args_cons ?_; refine ldG (by assumption) (by assumption) (by assumption) (gx_bytes_types _) ?_; refine PyProof.Rows.args_nil ?_
  refine kia_tup (K := KF w) (its := [.type "bytes", .type "bytearray"]) kitx_bytes (I3.inK hW') trivial ((I3.inK hW') 72 _ rfl) (b := true) (by rfl) (fun q => nomatch q) fun tk => ?_
  refine wpAny_truthy_bool ?_; refine ifT ?_; refine wpAny_execs_cons ?_; refine wpAny_Return_some ?_
  have I4 := I3.tk tk
  clear I2 I3
  refine ldV (by assumption) (by assumption) (by rfl) ?_
  exact hQ0 _ _ ⟨_, _, I4, fun J => h _ J⟩
theorem lenB {b : Array UInt8} {t : Tok} {Q : Value → Shared → Prop} (I : St g G O L m objs s) (hz : b.size ≤ 1000) (h : ∀ t' s', St g G O L m objs s' → Q (.int b.size t') s') : wpAny (model prog w) A (call (.builtin "len") [.bytes b t]) Q E s :=
  len_bytes (by omega) (h _ _ (I.tk _))
theorem subscrB {value slice : Expr} {b : Array UInt8} {t u : Tok} {i : Int} {Q : Value → Shared → Prop} (I : St g G O L m objs s) (hz : b.size ≤ 1000) (h0 : 0 ≤ i) (h1 : i < b.size)
    (h : ∀ t' s', St g G O L m objs s' → Q (.int ((KBw.bInts b).getD i.toNat 0) t') s')
    (hs : subscripted slice false (.bytes b t) (.int i u) = operate [.bytes b t, .int i u] (getItem (.bytes b t) (.int i u)) := by with_unfolding_all rfl)
    (ht : ∀ r, letTemporaryGo value (.bytes b t) r = pure () := by intro _; with_unfolding_all rfl) : wpAny (model prog w) A (subscriptTail value slice (.bytes b t) (.int i u)) Q E s :=
  KBw.item_K rfl (by rw [KBw.ints_length]; omega) h0 (by rw [KBw.ints_length]; exact h1) (fun t' k _ _ => h _ _ (I.tk _)) hs ht
theorem bytesL {i : Nat} {l : Addr} {ns : List Int} {Q : Value → Shared → Prop} (hh : A.handled = none) (I : St g G O L m objs s) (hi : objs[i]? = some (l, isLI ns)) (hr : ∀ n ∈ ns, 0 ≤ n ∧ n < 256) (hz : ns.length ≤ 1000) (h : ∀ t s', St g G O L m objs s' → Q (.bytes (byteArr ns) t) s') :
    wpAny (model prog w) A (call (.type "bytes") [.ref l]) Q E s := by
  obtain ⟨vs, n, hl, hf⟩ := I.ints hi
  exact call_bytes_ints (isList_of hl) hf hr (by rw [hf.length, sizeLine_eq]; omega) hh fun h' t k hk => h _ _ (I.kept hk rfl rfl)
theorem oShl4 {a : Int} {t u : Tok} {Q : Value → Shared → Prop} (I : St g G O L m objs s) (ha : 0 ≤ a) (ha2 : a < 1000) (h : ∀ t s', St g G O L m objs s' → Q (.int (a * 16) t) s') : wpAny (model prog w) A (binaryOp .LShift (.int a t) (.int 4 u)) Q E s :=
  lshift_int_small (by decide) (by decide) (by omega) (h _ _ (I.tk _))

theorem a2b_call {b : Array UInt8} {t : Tok} {Q : Value → Shared → Prop} (I : St g G O L m objs s) (hW : W w g) (hroom : A.depth < 890) (hh : A.handled = none) (hb : b.size = 16) (hx : ∀ c ∈ KBw.bInts b, hexI c)
    (h : ∀ t' s', St g G O L m objs s' → Q (.bytes (byteArr (pairs (KBw.bInts b) 8)) t') s') :
    wpAny (model prog w) A (call (.ref 129) [.bytes b t]) Q E s := by
  refine call_fn (bs := [("hexstr", .bytes b t)]) I hW (by unfold recursionLimit; omega) rfl rfl rfl rfl (BindsTo.of_eq rfl) rfl rfl ?_
  intro g' L' s' env HE hW' I' E'
  refine post_gen fun Q0 hQ0 => ?_
  dsimp only at HE
  have I2 := I'.loc (m' := [("hexstr", isV (.bytes b t))]) ⟨⟨_, rfl, fun _ x => x⟩, trivial⟩
  clear I'
  have hg : ∀ i, i < 16 → hexI ((KBw.bInts b).getD i 0) := fun i hi => by
    have hl : i < (KBw.bInts b).length := by rw [KBw.ints_length]; omega
    exact hx _ (by rw [List.getD_eq_getElem?_getD, List.getElem?_eq_getElem hl]; exact List.getElem_mem _)
  generalize hks : KBw.bInts b = ks at *
  refine wpAny_execs_cons ?_; refine wpAny_Assign_Name ?_; refine wpAny_Call_NameR ?_; refine ldG (by assumption) (by assumption) (by assumption) (gx_ascii_buffer _) ?_; refine callWith_K (W.k (by assumption)) (by with_unfolding_all rfl) ?_; refine PyProof.Rows.args_cons ?_; refine ldV (by assumption) (by assumption) (by rfl) ?_; refine PyProof.Rows.args_nil ?_; refine ⟨St.inK (by assumption) (by assumption), ?_⟩
  refine ascb_call I2 hW' (by simp only [Around.deeper]; omega) ?_
  intro s3 I3
  refine sto (P := isV _) (by assumption) (by assumption) rfl (fun _ _ => ?_); refine wpAny_execs_cons ?_; refine wpAny_Assign_Name ?_; refine wpAny_Call_NameR ?_; refine ldB (by assumption) (by assumption) (by assumption) (g_len _) b_len ?_; refine PyProof.Rows.callWith_builtin1 ?_; refine PyProof.Rows.args_cons ?_; refine ldV (by assumption) (by assumption) (by rfl) ?_; refine PyProof.Rows.args_nil ?_
  rename St _ _ _ _ _ _ _ => I4
  refine lenB I4 (by omega) ?_
  intro t5 s5 I5
  rw [hb]
  refine sto (P := isI _) (by assumption) (by assumption) ⟨_, rfl⟩ (fun _ _ => ?_); refine wpAny_execs_cons ?_
  rename St _ _ _ _ _ _ _ => I6
  clear I2 I3 I4 I5
  refine wpAny_mono (Q := fun fl s5 => fl = .next ∧ St g' G O L' [nm "arglen" (isI 16), nm "argbuf" (isV (.bytes b t))] objs s5) ?ifA ?ifB fun _ _ x => x
  case ifA =>
    refine wpAny_If ?_
    refine wpAny_isTrue_value ?_; refine wpAny_BinOp ?_; refine ldI (by assumption) (by assumption) (by rfl) (fun _ => ?_); refine cI (by assumption) (fun _ _ _ => ?_); refine oMod (by assumption) (by decide) (fun _ _ _ => ?_)
    rename St _ _ _ _ _ _ _ => I7
    refine PySem.P.truthy_int ?_
    rw [if_neg (show ¬ ((Int.fmod ((16 : Nat) : Int) 2 != 0) = true) from by decide)]
    exact wpAny_execs_nil ⟨rfl, I7.loc ⟨⟨_, rfl, fun _ x => x⟩, ⟨_, rfl, fun _ x => x⟩, trivial⟩⟩
  rintro fl s7 ⟨rfl, I7⟩
  clear I6
  refine wpAny_execs_cons ?_; refine wpAny_Assign_Name ?_; refine PyProof.Rows.List_ ?_; refine PyProof.Rows.args_nil ?_
  rename St _ _ _ _ _ _ _ => I8
  refine newL (ps := []) I8 .nil ?_
  intro ol s9 I9
  refine sto (P := isV _) (by assumption) (by assumption) rfl (fun _ _ => ?_); refine wpAny_execs_cons ?_; refine wpAny_Assign_Name ?_; refine cI (by assumption) (fun _ _ _ => ?_); refine sto (P := isI _) (by assumption) (by assumption) ⟨_, rfl⟩ (fun _ _ => ?_); refine wpAny_execs_cons ?_
  rename St _ _ _ _ _ _ _ => I10
  clear I8 I9
  refine wpAny_While ?_
  refine codeAny_mono (R := fun r s11 => r = .ok .next ∧ St g' G O L' [nm "out" (vref ol), nm "i" (isI 16), nm "arglen" (isI 16), nm "argbuf" (isV (.bytes b t))] (objs ++ [(ol, isLI (pairs ks 8))]) s11) ?loop ?aft
  case aft =>
    rintro r s11 ⟨rfl, I11⟩
    refine wpAny_execs_cons ?_; refine wpAny_Return_some ?_; refine wpAny_Call_NameR ?_; refine ldB (by assumption) (by assumption) (by assumption) (gx_bytes _) bx_bytes ?_; refine PyProof.Rows.callWith_type1 ?_; refine PyProof.Rows.args_cons ?_; refine ldV (by assumption) (by assumption) (by rfl) ?_; refine PyProof.Rows.args_nil ?_
    refine bytesL (by exact hh) I11 (l := ol) last_get (fun n hn => ?_) (by simp [pairs]) ?_
    · unfold pairs at hn
      obtain ⟨i, hi, rfl⟩ := List.mem_map.mp hn
      have hi' := List.mem_range.mp hi
      have r1 := hv_range (hg (2 * i) (by omega))
      have r2 := hv_range (hg (2 * i + 1) (by omega))
      omega
    intro t12 s12 I12
    exact hQ0 _ _ ⟨_, _, I12, fun J => h _ _ (J.cut rfl)⟩
  refine whileQ (I := fun k s => ∃ j : Nat, k = 8 - j ∧ j ≤ 8 ∧ St g' G O L' [nm "out" (vref ol), nm "i" (isI (2 * j)), nm "arglen" (isI 16), nm "argbuf" (isV (.bytes b t))] (objs ++ [(ol, isLI (pairs ks j))]) s) ?_ 8
    ⟨0, rfl, by omega, I10.loc ⟨⟨_, rfl, fun _ x => x⟩, ⟨_, rfl, fun _ x => x⟩, ⟨_, rfl, fun _ x => x⟩, ⟨_, rfl, fun _ x => x⟩, trivial⟩⟩
  clear I10
  intro k s11 hI E1 B hB hBb hBr T1 hT hF
  obtain ⟨j, rfl, hj, I11⟩ := hI
  refine wpAny_isTrue_Compare1 ?_; refine ldI (by assumption) (by assumption) (by rfl) (fun _ => ?_); refine ldI (by assumption) (by assumption) (by rfl) (fun _ => ?_)
  refine tLt (fun hlt => ?_) (fun hlt => ?_)
  · have hj8 : j < 8 := by omega
    refine hT _ ?_; refine wpAny_execs_cons ?_; refine wpAny_Assign_Name ?_; refine wpAny_Call_NameR ?_; refine ldG (by assumption) (by assumption) (by assumption) (gx_hex_value _) ?_; refine callWith_K (W.k (by assumption)) (by with_unfolding_all rfl) ?_; refine PyProof.Rows.args_cons ?_; refine Subscript_ ?_; refine ldV (by assumption) (by assumption) (by rfl) ?_; refine ldI (by assumption) (by assumption) (by rfl) (fun _ => ?_)
    refine subscrB I11 (by omega) (by omega) (by rw [hb]; omega) ?_
    intro t12 s12 I12
    rw [hks, show (2 * (j : Int)).toNat = 2 * j by omega]
    refine PyProof.Rows.args_nil ?_; refine ⟨St.inK (by assumption) (by assumption), ?_⟩
    have r1 := hg (2 * j) (by omega)
    have r2 := hg (2 * j + 1) (by omega)
    refine hexv_call I12 hW' (by simp only [Around.deeper]; omega) r1 ?_
    intro t13 s13 I13
    refine sto (P := isI _) (by assumption) (by assumption) ⟨_, rfl⟩ (fun _ _ => ?_); refine wpAny_execs_cons ?_; refine wpAny_Assign_Name ?_; refine wpAny_Call_NameR ?_; refine ldG (by assumption) (by assumption) (by assumption) (gx_hex_value _) ?_; refine callWith_K (W.k (by assumption)) (by with_unfolding_all rfl) ?_; refine PyProof.Rows.args_cons ?_; refine Subscript_ ?_; refine ldV (by assumption) (by assumption) (by rfl) ?_; refine wpAny_BinOp ?_; refine ldI (by assumption) (by assumption) (by rfl) (fun _ => ?_); refine cI (by assumption) (fun _ _ _ => ?_); refine oAdd (by assumption) (fun _ _ _ => ?_)
    rename St _ _ _ _ _ _ _ => I14
    refine subscrB I14 (by omega) (by omega) (by rw [hb]; omega) ?_
    intro t15 s15 I15
    rw [hks, show (2 * (j : Int) + 1).toNat = 2 * j + 1 by omega]
    refine PyProof.Rows.args_nil ?_; refine ⟨St.inK (by assumption) (by assumption), ?_⟩
    refine hexv_call I15 hW' (by simp only [Around.deeper]; omega) r2 ?_
    intro t16 s16 I16
    refine sto (P := isI _) (by assumption) (by assumption) ⟨_, rfl⟩ (fun _ _ => ?_); refine wpAny_execs_cons ?_
    rename St _ _ _ _ _ _ _ => I17
    clear I11 I12 I13 I14 I15 I16
    have v1 := hv_range r1
    have v2 := hv_range r2
    generalize hx1 : hv (ks.getD (2 * j) 0) = x1 at *
    generalize hx2 : hv (ks.getD (2 * j + 1) 0) = x2 at *
    refine wpAny_mono (Q := fun fl s5 => fl = .next ∧ St g' G O L' [nm "bot" (isI x2), nm "top" (isI x1), nm "out" (vref ol), nm "i" (isI (2 * j)), nm "arglen" (isI 16), nm "argbuf" (isV (.bytes b t))] (objs ++ [(ol, isLI (pairs ks j))]) s5) ?ifC ?ifD fun _ _ x => x
    case ifC =>
      refine wpAny_If ?_
      refine wpAny_isTrue_BoolOp ?_; refine wpAny_allTrue_Or_cons ?_; refine wpAny_isTrue_Compare1 ?_; refine ldI (by assumption) (by assumption) (by rfl) (fun _ => ?_); refine cI (by assumption) (fun _ _ _ => ?_)
      refine tGe (fun q => absurd q (by omega)) (fun _ => ?_)
      refine ifF ?_; refine wpAny_allTrue_Or_cons ?_; refine wpAny_isTrue_Compare1 ?_; refine ldI (by assumption) (by assumption) (by rfl) (fun _ => ?_); refine cI (by assumption) (fun _ _ _ => ?_)
      refine tGe (fun q => absurd q (by omega)) (fun _ => ?_)
      refine ifF ?_; refine wpAny_allTrue_Or_nil ?_; refine ifF ?_
      rename St _ _ _ _ _ _ _ => I18
      exact wpAny_execs_nil ⟨rfl, I18.loc ⟨⟨_, rfl, fun _ x => x⟩, ⟨_, rfl, fun _ x => x⟩, ⟨_, rfl, fun _ x => x⟩, ⟨_, rfl, fun _ x => x⟩, ⟨_, rfl, fun _ x => x⟩, ⟨_, rfl, fun _ x => x⟩, trivial⟩⟩
    rintro fl s18 ⟨rfl, I18⟩
    clear I17
    refine wpAny_execs_cons ?_; refine exprS (by assumption) ?_; refine methodCall_KW ?_; refine ldV (by assumption) (by assumption) (by rfl) ?_
    refine meth_of_on (appM I18 (l := ol) last_get ?_)
    refine wpAny_BinOp ?_; refine wpAny_BinOp ?_; refine ldI (by assumption) (by assumption) (by rfl) (fun _ => ?_); refine cI (by assumption) (fun _ _ _ => ?_)
    rename St _ _ _ _ _ _ _ => I19
    refine oShl4 I19 v1.1 (by omega) ?_
    intro t20 s20 I20
    refine ldI (by assumption) (by assumption) (by rfl) (fun _ => ?_); refine oAdd (by assumption) (fun _ _ _ => ?_)
    rename St _ _ _ _ _ _ _ => I21
    refine appLI I21 (l := ol) last_get ?_ (by simp [pairs]; omega)
    intro s22 I22
    rw [last_set] at I22
    refine wpAny_execs_cons ?_; refine wpAny_Assign_Name ?_; refine wpAny_BinOp ?_; refine ldI (by assumption) (by assumption) (by rfl) (fun _ => ?_); refine cI (by assumption) (fun _ _ _ => ?_); refine oAdd (by assumption) (fun _ _ _ => ?_); refine sto (P := isI _) (by assumption) (by assumption) ⟨_, rfl⟩ (fun _ _ => ?_)
    rename St _ _ _ _ _ _ _ => I23
    refine wpAny_execs_nil (hB _ _ (.inl rfl) ⟨8 - (j + 1), by omega, j + 1, rfl, by omega, ?_⟩)
    rw [pairs_snoc, hx1, hx2]
    have e : (2 * (j : Int) + 2) = 2 * ((j + 1 : Nat) : Int) := by omega
    rw [e] at I23
    exact I23.loc ⟨⟨_, rfl, fun _ x => x⟩, ⟨_, rfl, fun _ x => x⟩, ⟨_, rfl, fun _ x => x⟩, ⟨_, rfl, fun _ x => x⟩, trivial⟩
  · obtain rfl : j = 8 := by omega
    exact hF _ (wpAny_execs_nil ⟨rfl, I11⟩)

theorem b16d_call {b : Array UInt8} {t : Tok} {Q : Value → Shared → Prop} (I : St g G O L m objs s) (hW : W w g) (hroom : A.depth < 870) (hh : A.handled = none) (hb : b.size = 16) (hx : ∀ c ∈ KBw.bInts b, hexI c)
    (h : ∀ t' s', St g G O L m objs s' → Q (.bytes (byteArr (pairs (KBw.bInts b) 8)) t') s') :
    wpAny (model prog w) A (call (.ref 144) [.bytes b t]) Q E s := by
  refine wpAny_call (code_fnV hW I (by unfold recursionLimit; omega) rfl rfl rfl rfl rfl ?_)
  refine binds_K (K := KF w) (binds := [("s", .bytes b t), ("casefold", .bool false)]) (I.inK hW) rfl rfl rfl rfl rfl _ _ _ _ ?_
  refine ⟨_, I, rfl, ?_⟩
  intro g' L' s' env HE hW' I' E'
  refine post_gen fun Q0 hQ0 => ?_
  dsimp only at HE
  have I2 := I'.loc (m' := [("s", isV (.bytes b t)), ("casefold", isV (.bool false))]) ⟨⟨_, rfl, fun _ x => x⟩, ⟨_, rfl, fun _ x => x⟩, trivial⟩
  clear I'
  refine wpAny_execs_cons ?_; refine wpAny_Assign_Name ?_; refine wpAny_Call_NameR ?_; refine ldG (by assumption) (by assumption) (by assumption) (gx_bytes_from_decode_data _) ?_; refine callWith_K (W.k (by assumption)) (by with_unfolding_all rfl) ?_; refine PyProof.Rows.args_cons ?_; refine ldV (by assumption) (by assumption) (by rfl) ?_; refine PyProof.Rows.args_nil ?_; refine ⟨St.inK (by assumption) (by assumption), ?_⟩
  refine bfdd_call I2 hW' (by simp only [Around.deeper]; omega) ?_
  intro s3 I3
  clear I2
  refine sto (P := isV _) (by assumption) (by assumption) rfl (fun _ _ => ?_); refine wpAny_execs_cons ?_
  refine wpAny_If ?_
  refine wpAny_isTrue_value ?_; refine ldV (by assumption) (by assumption) (by rfl) ?_; refine wpAny_truthy_bool ?_; refine ifF ?_
  rename St _ _ _ _ _ _ _ => I4
  refine wpAny_execs_nil ?_
  refine wpAny_execs_cons ?_
  clear I3
  refine wpAny_If ?_
  refine wpAny_isTrue_value ?_; refine methodCall_KW ?_; refine ldG (by assumption) (by assumption) (by assumption) (gx_twin_re_1 _) ?_
  have hbx : ∀ i, i < b.size → hexUp (b.getD i 0).toNat := fun i hi => by
    have hm : ((b.getD i 0).toNat : Int) ∈ KBw.bInts b := by
      have e : b[i]? = some (b.getD i 0) := by simp [Array.getD, hi]
      exact List.mem_of_getElem? (KBw.ints_get e)
    have := hx _ hm
    unfold hexI at this
    unfold hexUp
    omega
  with_reducible refine meth_on ?_
  refine searchM I4 hW' (by omega) (by omega) hbx ?_
  refine ldV (by assumption) (by assumption) (by rfl) ?_
  refine ⟨_, rfl, I4, ?_⟩
  refine PyProof.Rows.truthy_none ?_; refine ifF ?_
  refine wpAny_execs_nil ?_
  refine wpAny_execs_cons ?_; refine wpAny_Return_some ?_; refine wpAny_Call_NameR ?_; refine ldG (by assumption) (by assumption) (by assumption) (gx_unhexlify _) ?_; refine callWith_K (W.k (by assumption)) (by with_unfolding_all rfl) ?_; refine PyProof.Rows.args_cons ?_; refine ldV (by assumption) (by assumption) (by rfl) ?_; refine PyProof.Rows.args_nil ?_; refine ⟨St.inK (by assumption) (by assumption), ?_⟩
  refine a2b_call I4 hW' (by simp only [Around.deeper]; omega) (by exact hh) hb hx ?_
  intro t5 s5 I5
  exact hQ0 _ _ ⟨_, _, I5, fun J => h _ _ J⟩
end
end Mine
end
-- MC2
section
open PySem PySem.W PyProof.Rows
set_option maxRecDepth 100000
set_option maxHeartbeats 4000000
namespace Mine
section
variable {prog : Program} {w : World} {A : Around} {E : Value → Shared → Prop} {s : Shared}
variable {g : Heap} {G : Array GenState} {O : OsState} {L : Addr} {m : List (Str × VP)} {objs : List (Addr × OP)} {env : Env} {names : List (Str × NameKind)} {cs : List (Str × Addr)}
theorem call_fnC2 {f : Addr} {fd : FuncData} {o : Obj} {body : List Stmt} {args : List Value} {bs : List (Str × Value)} {m' : List (Str × VP)} {Q : Value → Shared → Prop}
    (I : St g G O L m objs s) (hW : W w g) (hroom : A.depth < recursionLimit)
    (ho : (KF w).lookup f = some o) (hdata : o.data = .func fd) (hbody : fd.body = .stmts body) (hcd : codeIn (KF w) fd.code fd.qualname = true)
    (hbind : bindArgs fd ⟨args, []⟩ = pure bs) (hclo : fd.closure = [])
    (hkind : (bs.all fun y => fd.scope.names.lookup y.1 == some .local || fd.scope.names.lookup y.1 == some .cell) = true)
    (hnd : ((cellsFrom 0 fd.scope.names []).map (·.1)).Nodup)
    (hm : CovF (bindL (fun n => fd.scope.names.lookup n) bs fun _ => none) m')
    (h : ∀ g' L' s' env, (∀ b o, g.get? b = some o → g'.get? b = some o) → EnvIs env L' fd.scope.names (cellsFrom (L' + 1) fd.scope.names []) → W w g' → St g' G O L' m' (objs ++ cellLed fd.scope.names bs (cellsFrom (L' + 1) fd.scope.names [])) s' → ∀ E',
      wpAny (model prog w) (A.deeper env) (execs body env) (fun fl s₂ => ∃ m₂ objs₂, St g' G O L' m₂ objs₂ s₂ ∧ (St g G O L m objs₂ s₂ → Q (flowVal fl) s₂)) E' s')
    (hco : fd.scope.isCoroutine = false := by rfl) (hgen : fd.scope.isGenerator = false := by rfl) (hk : fd.scope.kind = .function := by rfl)
    (hgl : fd.globals = mainGlobals := by rfl) (hbl : fd.builtins = builtinsNs := by rfl) :
    wpAny (model prog w) A (call (.ref f) args) Q E s := by
  have hWs : W w s.heap := hW.keeps I.keep
  refine wpAny_call (codeAny_call_cells hroom (hWs.k _ _ ho) hdata hWs.lim (codeRec_of hWs.k hcd) hbody hbind hclo (kindsX hkind _) (fun s₁ X => ?_) hco hgen hk)
  have hsame := X.toInCall.same
  have hns := X.toInCall.ns
  have hk₀ := X.toInCall.keep
  have hkind2 : (callEnvC fd s.heap.objs.size f).kindOf = fun n => fd.scope.names.lookup n := rfl
  have hloc : (callEnvC fd s.heap.objs.size f).locals = s.heap.objs.size := rfl
  have hcells : (callEnvC fd s.heap.objs.size f).cells = cellsFrom (s.heap.objs.size + 1) fd.scope.names [] := rfl
  rw [hloc, hkind2] at hns
  obtain ⟨h1, tk, hs1⟩ := hsame
  have I' : St (under s objs) G O s.heap.objs.size m' objs s₁ := I.enter hns hm.get hk₀ (Nat.le_refl _) (by rw [hs1]) (by rw [hs1])
  have hcell := X.cell
  have habove := X.above
  have hapart := X.apart
  rw [hcells, hkind2] at hcell
  rw [hcells] at hapart
  rw [hcells, hloc] at habove
  have hfull : St (under s objs) G O s.heap.objs.size m' (objs ++ cellLed fd.scope.names bs (cellsFrom (s.heap.objs.size + 1) fd.scope.names [])) s₁ := by
    have hfst : (cellLed fd.scope.names bs (cellsFrom (s.heap.objs.size + 1) fd.scope.names [])).map (·.1) = (cellsFrom (s.heap.objs.size + 1) fd.scope.names []).map (·.2) := by
      unfold cellLed; rw [List.map_map]; rfl
    have hlk : ∀ x ∈ cellsFrom (s.heap.objs.size + 1) fd.scope.names [], (cellsFrom (s.heap.objs.size + 1) fd.scope.names []).lookup x.1 = some x.2 := by
      have hnames : ∀ n n' (l : List (Str × NameKind)) (a a' : List (Str × Addr)), a.map (·.1) = a'.map (·.1) → (cellsFrom n l a).map (·.1) = (cellsFrom n' l a').map (·.1) := by
        intro n n' l
        induction l generalizing n n' with
        | nil => intro a a' e; exact e
        | cons y r ih =>
          intro a a' e
          unfold cellsFrom
          split
          · exact ih _ _ _ _ (by simp [e])
          · exact ih _ _ _ _ e
      have nd : ((cellsFrom (s.heap.objs.size + 1) fd.scope.names []).map (·.1)).Nodup := by rw [hnames _ 0 _ [] [] rfl]; exact hnd
      have gen : ∀ (l : List (Str × Addr)), (l.map (·.1)).Nodup → ∀ x ∈ l, l.lookup x.1 = some x.2 := by
        intro l
        induction l with
        | nil => intro _ x hx; cases hx
        | cons y r ih =>
          intro hn x hx
          rw [List.map_cons, List.nodup_cons] at hn
          rcases List.mem_cons.mp hx with rfl | hx
          · rw [List.lookup_cons, beq_self_eq_true]
          · have : (x.1 == y.1) = false := by
              simp only [beq_eq_false_iff_ne, ne_eq]
              intro e
              exact hn.1 (e ▸ List.mem_map_of_mem hx)
            rw [List.lookup_cons, this]
            exact ih hn.2 x hx
      exact gen _ nd
    refine ⟨I'.ns, I'.keep, I'.newL, fun p hp => ?_, ?_, I'.gens, I'.os⟩
    · rcases List.mem_append.mp hp with hp | hp
      · exact I'.led p hp
      · obtain ⟨x, hx, rfl⟩ := List.mem_map.mp hp
        obtain ⟨o, e1, e2⟩ := hcell x.1 x.2 (hlk x hx)
        refine ⟨⟨o, e1, ?_⟩, Nat.ne_of_gt (habove x.1 x.2 hx), ?_⟩
        · cases q : bindC (fun n => fd.scope.names.lookup n) bs (fun _ => none) x.1 with
          | none => rw [q] at e2; exact ⟨_, e2⟩
          | some v => rw [q] at e2; exact ⟨v, e2, rfl⟩
        · cases q : (under s objs).get? x.2 with
          | none => rfl
          | some o => exact absurd (Heap.lt_size (of_hideAll _ q)) (Nat.not_lt.mpr (Nat.le_of_lt (habove x.1 x.2 hx)))
    · rw [List.map_append, hfst]
      refine List.nodup_append.mpr ⟨I'.nd, ?_, fun a ha b hb e => ?_⟩
      · exact List.pairwise_map.mpr hapart
      · subst e
        obtain ⟨p, hp, e1⟩ := List.mem_map.mp ha
        obtain ⟨x, hx, e2⟩ := List.mem_map.mp hb
        obtain ⟨⟨o, h1, _⟩, _⟩ := I.led p hp
        have := Heap.lt_size h1
        rw [e1, ← e2] at this
        exact absurd this (Nat.not_lt.mpr (Nat.le_of_lt (habove x.1 x.2 hx)))
  refine wpAny_mono (h _ _ _ _ I.stays ⟨hk, rfl, rfl, hgl, hbl, rfl⟩ (hW.keeps I.stays) hfull _) (fun fl s₂ ⟨m₂, objs₂, e1, e2⟩ => ?_) fun _ _ x => x
  have := e2 (I.leave e1)
  cases fl <;> exact this

noncomputable def pickI (ns : List Int) (lo hi st : Option Int) : List Int := pickNums ns lo hi st
/-- a slice of a list of ints -/
theorem sliceI {l sl : Addr} {items : Array Value} {ns : List Int} {vl vu vs : Value} {lo hi st : Option Int} {Q : Value → Shared → Prop} (I : St g G O L m objs s) (hl : s.heap.IsList l items) (hi' : IntsAre items.toList ns) (hz : ns.length ≤ 1000)
    (hs : s.heap.IsSliceOf sl vl vu vs) (pl : IsPart vl lo) (pu : IsPart vu hi) (ps : IsPart vs st) (h0 : st ≠ some 0)
    (h : ∀ a s', St g G O L m (objs ++ [(a, isLI (pickNums ns lo hi st))]) s' → Q (.ref a) s') : wpAny (model prog w) A (getItem (.ref l) (.ref sl)) Q E s := by
  have hsz : items.size = ns.length := by have := hi'.length; simpa using this
  refine wpAny_getItem_list_slice hl hs pl pu ps h0 (h _ _ (I.push (o := { cls := .type "list", data := .seq (slicePick items lo hi st) }) (P := isLI (pickNums ns lo hi st)) rfl ?_ rfl rfl rfl)) (by rw [hsz, sizeLine_eq]; omega)
  have e := hi'.pick lo hi st
  exact ⟨(slicePick items lo hi st).toList, 0, rfl, ints_fit e⟩
end
end Mine
end
-- MX7
section
open PySem PySem.W PyProof.Rows
set_option maxRecDepth 100000
set_option maxHeartbeats 4000000
namespace Mine

theorem presum_bound {val : Nat → Int} {n : Nat} {B : Int} (hB : 0 ≤ B) (h : ∀ j, j < n → 0 ≤ val j ∧ val j ≤ B) : ∀ j, j ≤ n → 0 ≤ preSum val j ∧ preSum val j ≤ B * j
  | 0, _ => ⟨Int.le_refl _, by show (0 : Int) ≤ _; simp⟩
  | j + 1, hj => by
    obtain ⟨a, b⟩ := presum_bound hB h j (by omega)
    obtain ⟨c, d⟩ := h j (by omega)
    show 0 ≤ preSum val j + val j ∧ preSum val j + val j ≤ _
    rw [Int.natCast_add, Int.mul_add]
    have e1 : ((1 : Nat) : Int) = 1 := rfl
    rw [e1, Int.mul_one]
    constructor <;> omega
section
variable {prog : Program} {w : World} {A : Around} {E : Value → Shared → Prop} {s : Shared}
variable {g : Heap} {G : Array GenState} {O : OsState} {L : Addr} {m : List (Str × VP)} {objs : List (Addr × OP)} {env : Env} {names : List (Str × NameKind)} {cs : List (Str × Addr)}
theorem sumL {i : Nat} {l : Addr} {ns : List Int} {Q : Value → Shared → Prop} (hh : A.handled = none) (I : St g G O L m objs s) (hi : objs[i]? = some (l, isLI ns)) (hz : ns.length ≤ 100) (hr : ∀ x ∈ ns, 0 ≤ x ∧ x ≤ 1000000)
    (h : ∀ x t s', 0 ≤ x → St g G O L m objs s' → Q (.int x t) s') : wpAny (model prog w) A (call (.builtin "sum") [.ref l]) Q E s := by
  obtain ⟨vs, n, hl, hf⟩ := I.ints hi
  have hlen := hf.length
  refine call_sum_walk (wpAny_pyIter_list (isList_of hl) ?_)
  have hne : l ≠ s.heap.objs.size := Nat.ne_of_lt (Heap.lt_size hl)
  have hb : ∀ j, j < vs.toArray.size → 0 ≤ ns.getD j 0 ∧ ns.getD j 0 ≤ 1000000 := fun j hj => by
    have hj' : j < ns.length := by simpa [hlen] using hj
    exact hr _ (by simp [hj'])
  have hps := presum_bound (val := fun j => ns.getD j 0) (n := vs.toArray.size) (by decide) hb
  refine ⟨s.heap.objs.size, _, _, _, _, _, fun j => ns.getD j 0, rfl, Walks.list (A := A.in1) hh _ l hne vs.toArray, ⟨⟨_, Heap.get?_push_size _ rfl, rfl, rfl⟩, (isList_of hl).push _⟩, fun b hb => ?_, fun j v hv => ?_, fun j hj => ?_, fun h' tk t' hk => ?_⟩
  · rw [Heap.size_push]
    simp at hb
    rcases hb with rfl | rfl
    · exact Nat.lt_succ_self _
    · exact Nat.lt_succ_of_lt (Heap.lt_size hl)
  · have hj : j < vs.length := by
      have := (Array.getElem?_eq_some_iff.mp hv).1; simpa using this
    obtain ⟨t, ht⟩ := hf.get j (ns.getD j 0) (by simp [← hlen, hj])
    refine ⟨t, ?_⟩
    have : vs[j]? = some v := by simpa using hv
    rw [ht] at this
    exact (Option.some.inj this).symm
  · obtain ⟨a, b⟩ := hb j hj
    obtain ⟨c, d⟩ := hps (j + 1) (by omega)
    have : (((j + 1 : Nat)) : Int) ≤ 100 := by
      have : vs.toArray.size = ns.length := by simp [hlen]
      omega
    dsimp only
    unfold InLong
    omega
  · refine h _ _ _ (hps _ (Nat.le_refl _)).1 (I.kept (s' := { s with heap := h', toks := tk }) (fun b o e => hk b o ?_ (Heap.get?_push_of_some _ e)) rfl rfl)
    simp
    exact Nat.ne_of_lt (Heap.lt_size e)
theorem sumB {b : Array UInt8} {t : Tok} {Q : Value → Shared → Prop} (hh : A.handled = none) (I : St g G O L m objs s) (hz : b.size ≤ 100)
    (h : ∀ x t s', 0 ≤ x → St g G O L m objs s' → Q (.int x t) s') : wpAny (model prog w) A (call (.builtin "sum") [.bytes b t]) Q E s := by
  refine call_sum_walk (KBw.pyIter_bytes ?_)
  have hb : ∀ j, j < b.size → 0 ≤ (KBw.bInts b).getD j 0 ∧ (KBw.bInts b).getD j 0 ≤ 1000000 := fun j hj => by
    have := KBw.getD_in (ks := KBw.bInts b) (j := j) fun k hk => KBw.ints_in hk
    omega
  have hps := presum_bound (val := fun j => (KBw.bInts b).getD j 0) (n := b.size) (by decide) hb
  refine ⟨s.heap.objs.size, _, _, _, _, _, fun j => (KBw.bInts b).getD j 0, rfl, KBw.walks (A := A.in1) hh _ b t, ⟨_, Heap.get?_push_size _ rfl, rfl, rfl⟩, fun b hb => ?_, fun j v hv => ?_, fun j hj => ?_, fun h' tk t' hk => ?_⟩
  · rw [Heap.size_push]
    simp at hb
    rw [hb]; exact Nat.lt_succ_self _
  · obtain ⟨c, u, hc, rfl⟩ := hv
    refine ⟨u, ?_⟩
    have := KBw.ints_get hc
    dsimp only
    rw [List.getD_eq_getElem?_getD, this]; rfl
  · obtain ⟨a, b⟩ := hb j hj
    obtain ⟨c, d⟩ := hps (j + 1) (by omega)
    have : (((j + 1 : Nat)) : Int) ≤ 100 := by omega
    dsimp only
    unfold InLong
    omega
  · refine h _ _ _ (hps _ (Nat.le_refl _)).1 (I.kept (s' := { s with heap := h', toks := tk }) (fun b o e => hk b o ?_ (Heap.get?_push_of_some _ e)) rfl rfl)
    simp
    exact Nat.ne_of_lt (Heap.lt_size e)

theorem pick_le (ns : List Int) (lo hi st : Option Int) : (pickNums ns lo hi st).length ≤ ns.length := by
  have key : ∀ ns : List Int, IntsAre (ns.map fun i => .int i 0) ns := by
    intro ns
    induction ns with
    | nil => exact .nil
    | cons n r ih => exact .cons _ _ ih
  exact length_pickNums_le (key ns) lo hi st
theorem powTen {t u : Tok} {Q : Value → Shared → Prop} (I : St g G O L m objs s) (h : ∀ t s', St g G O L m objs s' → Q (.int 1000000 t) s') : wpAny (model prog w) A (binaryOp .Pow (.int 10 t) (.int 6 u)) Q E s :=
  PyProof.Rows.pow_int_small (by decide) (by decide) (by decide) (h _ _ (I.tk _))
/-- the slice object is laid, then the slice of a list of ints is taken -/
theorem sliceAt {l : Addr} {ns : List Int} {lower upper step : Option Expr} {p : Pos} {lo hi st : Option Int} {Q : Value → Shared → Prop} (I : St g G O L m objs s)
    (hl : ∀ s', St g G O L m objs s' → ∃ vs : List Value, s'.heap.IsList l vs.toArray ∧ IntsAre vs ns) (hz : ns.length ≤ 1000) (h0 : st ≠ some 0)
    (hp : wpAny (model prog w) A (evalPart lower env) (fun vl s₁ => wpAny (model prog w) A (evalPart upper env) (fun vu s₂ => wpAny (model prog w) A (evalPart step env) (fun vk s₃ => IsPart vl lo ∧ IsPart vu hi ∧ IsPart vk st ∧ St g G O L m objs s₃) E s₂) E s₁) E s)
    (h : ∀ a s', St g G O L m (objs ++ [(a, isLI (pickNums ns lo hi st))]) s' → Q (.ref a) s') :
    wpAny (model prog w) A (eval (.Slice lower upper step p) env) (fun i s₂ => s₂.TypeIs (.ref l) "list" ∧ wpAny (model prog w) A (getItem (.ref l) i) Q E s₂) E s := by
  refine wpAny_Slice (wpAny_mono hp (fun vl s₁ h₁ => wpAny_mono h₁ (fun vu s₂ h₂ => wpAny_mono h₂ (fun vk s₃ ⟨p1, p2, p3, I3⟩ => ?_) fun _ _ x => x) fun _ _ x => x) fun _ _ x => x)
  have I4 : St g G O L m objs { s₃ with heap := s₃.heap.push { cls := .type "slice", data := .fields #[vl, vu, vk] } } := I3.kept (fun b o e => Heap.get?_push_of_some _ e) rfl rfl
  obtain ⟨vs, hv, hf⟩ := hl _ I4
  exact ⟨hv.typeIs, sliceI I4 hv (by simpa using hf) hz (Heap.IsSliceOf.new ..) p1 p2 p3 h0 h⟩
theorem octets_call {l : Addr} {vs : List Value} {ns : List Int} {Q : Value → Shared → Prop} (I : St g G O L m objs s) (hW : W w g) (hroom : A.depth < 900) (hh : A.handled = none) (hl : g.IsList l vs.toArray) (hi : IntsAre vs ns) (hz : ns.length ≤ 63)
    (h : ∀ b t s', b.size = 8 → St g G O L m objs s' → Q (.bytes b t) s') :
    wpAny (model prog w) A (call (.ref 269) [.ref l]) Q E s := by
  refine call_fnC2 (bs := [("script", .ref l)]) (m' := [("script", isV (.ref l))]) I hW (by unfold recursionLimit; omega) rfl rfl rfl rfl rfl rfl rfl (by decide) ⟨⟨_, rfl, rfl⟩, trivial⟩ ?_
  intro g' L' s' env hgk HE hW' I' E'
  refine post_gen fun Q0 hQ0 => ?_
  dsimp only at HE I'
  have hl' : g'.IsList l vs.toArray := let ⟨o, h1, h2⟩ := hl; ⟨o, hgk _ _ h1, h2⟩
  have I2 : St g' G O L' [nm "script" (vref l)] ([(L' + 1, isCell0), (L' + 1 + 1, isCell0)] ++ objs) s' := I'.perm (by
    show ([(L' + 1, isCell0), (L' + 1 + 1, isCell0)] ++ objs).Perm (objs ++ [(L' + 1 + 1, isCell0), (L' + 1, isCell0)])
    exact List.perm_append_comm.trans (List.Perm.append_left _ (List.Perm.swap _ _ _)))
  clear I'
  generalize L' + 1 = c1 at HE I2
  refine wpAny_execs_cons (wpAny_Assign_Name ?_ (swaps_cell HE rfl))
  refine post_gen fun Qa hQa => ?_
  refine lcomp HE rfl ?_
  refine wpAny_Subscript_Slice slot_list_getitem.lookup ?_; refine ldV (by assumption) (by assumption) (by rfl) ?_
  refine sliceAt (ns := ns) (lo := none) (hi := some 12) (st := none) I2 (fun s' I' => ⟨vs, let ⟨o, h1, h2⟩ := hl'; ⟨o, I'.keep _ _ h1, h2⟩, hi⟩) (by omega) (by decide) ?_ ?_
  · refine wpAny_pure ?_
    rw [evalPart_some]
    refine cI (by assumption) (fun _ _ _ => ?_)
    rename St _ _ _ _ _ _ _ => I3
    exact wpAny_pure ⟨.none, .int _ _, .none, I3⟩
  intro sa s3 I3
  have hd0 : (pickNums ns none (some 12) none).length ≤ 63 := Nat.le_trans (length_pickNums_le hi _ _ _) hz
  generalize pickNums ns none (some 12) none = ds0 at I3 hd0
  refine iterL I3 (l := sa) last_get ?_
  intro it s4 I4
  clear I2 I3
  refine compL (It.list (by exact hh) it sa (ds0.map isI)) HE (fun k qs objs' => ∃ ds : List Int, qs = ds.map isI ∧ ds.length = k ∧ k ≤ ds0.length ∧ (∀ x ∈ ds, 0 ≤ x ∧ x ≤ 1000000) ∧ objs' = [(c1, isCell0), (c1 + 1, isCell0)] ++ objs ++ [(sa, isLI ds0)])
    ⟨[], rfl, rfl, by omega, fun x hx => (nomatch hx), rfl⟩ (fun k qs objs' h q hq => by
      obtain ⟨ds, _, _, _, _, rfl⟩ := h
      rw [List.mem_singleton.mp hq]; exact last_mem)
    (fun k qs objs' h => by
      obtain ⟨ds, rfl, e, e2, _, _⟩ := h
      rw [List.length_map]; omega) I4 ?turn1 ?fin1
  case turn1 =>
    intro k g2 C cenv s10 qs objs2 hg2 HC hk hI I10 E2
    refine wpAny_tests_nil ?_
    refine ifT (post_gen fun Q0 hQ0 => ?_)
    obtain ⟨ds, rfl, hdl, hdk, hdr, rfl⟩ := hI
    have hk' : k < ds0.length := by simpa using hk
    have hW2 := hW'.keeps hg2
    have I11 := I10.loc (m' := [nm "cell" (isI (ds0.getD k 0))]) ⟨⟨_, rfl, fun v hv => hv _ (isLI_get hk')⟩, trivial⟩
    clear I10
    generalize ds0.getD k 0 = y at I11
    refine wpAny_BinOp ?_; refine wpAny_Call_NameR ?_; refine ldB (by assumption) (by assumption) (by assumption) (gx_int _) bx_int ?_; refine PyProof.Rows.callWith_type1 ?_; refine PyProof.Rows.args_cons ?_; refine ldI (by assumption) (by assumption) (by rfl) (fun _ => ?_); refine PyProof.Rows.args_nil ?_
    refine call_int_int ?_
    refine wpAny_BinOp ?_; refine cI (by assumption) (fun _ _ _ => ?_); refine cI (by assumption) (fun _ _ _ => ?_)
    rename St _ _ _ _ _ _ _ => I12
    refine powTen I12 ?_
    intro t13 s13 I13
    refine oMod (by assumption) (by decide) (fun _ _ _ => ?_)
    rename St _ _ _ _ _ _ _ => I14
    have hm0 : 0 ≤ y.fmod 1000000 := Int.fmod_nonneg_of_pos y (by decide)
    have hm1 : y.fmod 1000000 < 1000000 := Int.fmod_lt_of_pos y (by decide)
    refine hQ0 _ _ ⟨_, _, isI (y.fmod 1000000), ⟨_, rfl⟩, ⟨ds ++ [y.fmod 1000000], by simp, by simp [hdl], by omega, fun x hx => ?_, rfl⟩, I14⟩
    rcases List.mem_append.mp hx with q | q
    · exact hdr x q
    · rw [List.mem_singleton.mp q]; omega
  case fin1 =>
    rintro dl qs objs2 s10 ⟨ds, rfl, hdl, hdk, hdr, rfl⟩ I10
    refine hQa _ _ ?_
    have hds : ds.length ≤ 63 := by rw [hdl]; simpa using hd0
    clear I4
    refine stoC HE I10 rfl (i := 0) rfl (fun _ x => x) (P := vref dl) rfl ?_
    intro s11 I11
    refine wpAny_execs_cons ?_; refine wpAny_Assign_Name ?_; refine PyProof.Rows.List_ ?_; refine PyProof.Rows.args_cons ?_; refine cI (by assumption) (fun _ _ _ => ?_); refine PyProof.Rows.args_cons ?_; refine cI (by assumption) (fun _ _ _ => ?_); refine PyProof.Rows.args_cons ?_; refine cI (by assumption) (fun _ _ _ => ?_); refine PyProof.Rows.args_cons ?_; refine cI (by assumption) (fun _ _ _ => ?_); refine PyProof.Rows.args_cons ?_; refine cI (by assumption) (fun _ _ _ => ?_); refine PyProof.Rows.args_cons ?_; refine cI (by assumption) (fun _ _ _ => ?_); refine PyProof.Rows.args_cons ?_; refine cI (by assumption) (fun _ _ _ => ?_); refine PyProof.Rows.args_cons ?_; refine cI (by assumption) (fun _ _ _ => ?_); refine PyProof.Rows.args_nil ?_
    rename St _ _ _ _ _ _ _ => I12
    refine newL (ps := [83, 227, 7, 225, 147, 206, 127, 146].map isI) I12 (.cons ⟨_, rfl⟩ (.cons ⟨_, rfl⟩ (.cons ⟨_, rfl⟩ (.cons ⟨_, rfl⟩ (.cons ⟨_, rfl⟩ (.cons ⟨_, rfl⟩ (.cons ⟨_, rfl⟩ (.one ⟨_, rfl⟩)))))))) ?_
    intro sl s13 I13
    refine stoC HE I13 rfl (i := 1) rfl (fun _ x => x) (P := vref sl) rfl ?_
    intro s14 I14
    clear I10 I11 I12 I13
    have I15 : St g' G O L' [nm "script" (vref l)] ((c1, isCell (vref dl)) :: (c1 + 1, isCell (vref sl)) :: (dl, isLI ds) :: (sl, isLI [83, 227, 7, 225, 147, 206, 127, 146]) :: objs) s14 := by
      have I16 : St g' G O L' [nm "script" (vref l)] ((([(c1, isCell (vref dl)), (c1 + 1, isCell (vref sl))] ++ objs) ++ [(sa, isLI ds0)]) ++ ([(dl, isLI ds)] ++ [(sl, isLI [83, 227, 7, 225, 147, 206, 127, 146])])) s14 := I14.cast (by rw [← List.append_assoc]; rfl)
      have I17 : St g' G O L' [nm "script" (vref l)] (([(c1, isCell (vref dl)), (c1 + 1, isCell (vref sl))] ++ objs) ++ ([(dl, isLI ds)] ++ [(sl, isLI [83, 227, 7, 225, 147, 206, 127, 146])])) s14 := I16.subO (List.Sublist.append_right (List.sublist_append_left ..) _)
      refine I17.perm ?_
      rw [List.append_assoc]
      exact List.Perm.append_left [(c1, isCell (vref dl)), (c1 + 1, isCell (vref sl))] (List.perm_append_comm (l₁ := [(dl, isLI ds), (sl, isLI [83, 227, 7, 225, 147, 206, 127, 146])]))
    clear I14
    refine wpAny_execs_cons ?_; refine wpAny_Return_some ?_; refine wpAny_Call_NameR ?_; refine ldB (by assumption) (by assumption) (by assumption) (gx_bytes _) bx_bytes ?_; refine PyProof.Rows.callWith_type1 ?_; refine PyProof.Rows.args_cons ?_
    refine post_gen fun Qb hQb => ?_
    refine lcomp HE rfl ?_
    refine wpAny_Call_NameR ?_; refine ldB (by assumption) (by assumption) (by assumption) (g_range _) b_range ?_; refine PyProof.Rows.callWith_type1 ?_; refine PyProof.Rows.args_cons ?_; refine cI (by assumption) (fun _ _ _ => ?_); refine PyProof.Rows.args_nil ?_
    rename St _ _ _ _ _ _ _ => I16
    refine range1 I16 ?_
    intro r s17 I17
    refine iterRn 8 I17 last_get (by decide) (by decide) ?_
    intro it2 s18 I18
    clear I15 I16 I17
    refine compL (It.range (by exact hh) it2 0 1 8) HE (fun k qs objs' => ∃ os : List Int, qs = os.map isI ∧ os.length = k ∧ k ≤ 8 ∧ (∀ x ∈ os, 0 ≤ x ∧ x < 256) ∧ objs' = ((c1, isCell (vref dl)) :: (c1 + 1, isCell (vref sl)) :: (dl, isLI ds) :: (sl, isLI [83, 227, 7, 225, 147, 206, 127, 146]) :: objs) ++ [(r, isRng 0 8 1)])
      ⟨[], rfl, rfl, by omega, fun x hx => (nomatch hx), rfl⟩ (fun k qs objs' h q hq => nomatch hq)
      (fun k qs objs' h => by
        obtain ⟨os, rfl, e, e2, _, _⟩ := h
        rw [List.length_map]; omega) I18 ?turn2 ?fin2
    case turn2 =>
      intro k g2 C cenv s10 qs objs2 hg2 HC hk hI I10 E2
      refine wpAny_tests_nil ?_
      refine ifT (post_gen fun Q0 hQ0 => ?_)
      obtain ⟨os, rfl, hol, hok, hor, rfl⟩ := hI
      have hW2 := hW'.keeps hg2
      have I11 := I10.loc (m' := [nm "k" (isI k)]) ⟨⟨_, rfl, fun v hv => by rw [show (0 : Int) + (k : Int) * 1 = k by omega] at hv; exact hv⟩, trivial⟩
      clear I10 I18
      refine wpAny_BinOp ?_; refine wpAny_BinOp ?_; refine Subscript_ ?_
      refine ldCV HC I11 rfl (i := 1) rfl ?_
      refine ldI (by assumption) (by assumption) (by rfl) (fun _ => ?_)
      refine subscrI I11 (i := 3) rfl (by omega) (isLI_get (xs := [83, 227, 7, 225, 147, 206, 127, 146]) (p := k) (by simpa using hk)) (fun t12 => ?_)
      refine wpAny_Call_NameR ?_; refine ldB (by assumption) (by assumption) (by assumption) (gx_sum _) bx_sum ?_; refine PyProof.Rows.callWith_builtin1 ?_; refine PyProof.Rows.args_cons ?_; refine wpAny_Subscript_Slice_step slot_list_getitem.lookup ?_
      refine ldCV HC I11 rfl (i := 0) rfl ?_
      refine sliceAt (ns := ds) (lo := some k) (hi := none) (st := some 8) I11 (fun s' I' => ?_) (by omega) (by decide) ?_ ?_
      · obtain ⟨vs', n, e1, e2⟩ := I'.ints (i := 2) (l := dl) (ns := ds) rfl
        exact ⟨vs', isList_of e1, e2⟩
      · rw [evalPart_some]
        refine ldI (by assumption) (by assumption) (by rfl) (fun _ => ?_)
        refine wpAny_pure ?_
        rw [evalPart_some]
        refine cI (by assumption) (fun _ _ _ => ?_)
        rename St _ _ _ _ _ _ _ => I12
        exact ⟨.int _ _, .none, .int _ _, I12⟩
      intro sa2 s13 I13
      refine PyProof.Rows.args_nil ?_
      refine sumL (by exact hh) I13 (l := sa2) last_get ?_ ?_ ?_
      · exact Nat.le_trans (pick_le _ _ _ _) (by omega)
      · intro x hx
        unfold pickNums at hx
        obtain ⟨j, _, hj⟩ := List.mem_filterMap.mp hx
        exact hdr x (List.mem_of_getElem? hj)
      intro x t14 s14 hx0 I14
      refine oAdd (by assumption) (fun _ _ _ => ?_); refine cI (by assumption) (fun _ _ _ => ?_); refine oMod (by assumption) (by decide) (fun _ _ _ => ?_)
      rename St _ _ _ _ _ _ _ => I15
      refine hQ0 _ _ ⟨_, _, isI ((([83, 227, 7, 225, 147, 206, 127, 146] : List Int).getD k 0 + x).fmod 256), ⟨_, rfl⟩, ⟨os ++ [(([83, 227, 7, 225, 147, 206, 127, 146] : List Int).getD k 0 + x).fmod 256], by rw [List.map_append]; rfl, by simp [hol], by omega, fun y hy => ?_, rfl⟩, I15.cut rfl⟩
      rcases List.mem_append.mp hy with q | q
      · exact hor y q
      · rw [List.mem_singleton.mp q]
        exact ⟨Int.fmod_nonneg_of_pos _ (by decide), Int.fmod_lt_of_pos _ (by decide)⟩
    case fin2 =>
      rintro ol qs objs2 s10 ⟨os, rfl, hol, hok, hor, rfl⟩ I10
      refine hQb _ _ ?_
      refine PyProof.Rows.args_nil ?_
      refine bytesL (by exact hh) I10 (l := ol) last_get hor (by omega) ?_
      intro t11 s11 I11
      refine hQ0 _ _ ⟨_, _, I11, fun J => h _ _ _ (by rw [byteArr_size, hol]) ?_⟩
      exact J.subO ((List.sublist_append_right [(c1, isCell (vref dl)), (c1 + 1, isCell (vref sl)), (dl, isLI ds), (sl, isLI [83, 227, 7, 225, 147, 206, 127, 146])] objs).trans ((List.sublist_append_left ..).trans (List.sublist_append_left ..)))
end
end Mine
end
-- MX8
section
open PySem PySem.W PyProof.Rows
set_option maxRecDepth 100000
set_option maxHeartbeats 4000000
namespace Mine
noncomputable abbrev ByteAt (b : Array UInt8) : Nat → Value → Prop := fun i v => ∃ c u, b[i]? = some c ∧ v = .int ((c.toNat : Nat) : Int) u
theorem sub_bytes : isSubtype (.type "bytes") (.type "bytes") = pure true := by rw [isSubtype_type]; kernel_rfl
section
variable {prog : Program} {w : World} {A : Around} {E : Value → Shared → Prop} {s : Shared}
theorem hint_bytes {b : Array UInt8} {t : Tok} {Q : Bool → Shared → Prop} (h : Q false s) : wpAny (model prog w) A (Builtin.List.listLengthHint (.bytes b t)) Q E s := by
  unfold Builtin.List.listLengthHint
  refine wpAny_bind (wpAny_specialOf (T := "bytes") (v := .bytes b t) rfl FB.slot_bytes_len.lookup ?_)
  wp_delta
  refine wpAny_bind (wpAny_isInstance (T := "bytes") (v := .bytes b t) (b := true) rfl sub_bytes ?_)
  show wpAny _ _ (typeOf (Value.bytes b t) >>= _) _ _ _
  refine wpAny_bind (wpAny_typeOf (T := "bytes") (v := .bytes b t) rfl ?_)
  exact wpAny_pure h
theorem extend_bytes {R : Result → Shared → Prop} (hh : A.handled = none) (b : Array UInt8) (t : Tok) (S : Addr) (res : Value) (c₀ : Nat) (hS : s.heap.get? S = some { cls := .type "list", data := .seq #[] c₀ })
    (hR : ∀ h' tk acc' c', (∀ b o, b ≠ S → s.heap.get? b = some o → h'.get? b = some o) → h'.get? S = some { cls := .type "list", dict := none, data := .seq acc' c', slots := #[] } →
      ItemsOf (ByteAt b) acc' b.size → R (.ok (.ret res)) { s with heap := h', toks := tk }) (hn : b.size ≤ sizeLine) :
    wpAny (model prog w) A.in1 (Builtin.List.listExtendWith (.ref S) (.bytes b t) res)
      (fun fin s' => match fin with | .done f => R (.ok f) s' | .again c' => c'.quiet = true ∧ codeAny (model prog w) A c' R s') (fun e s' => R (.error e) s') s := by
  have hSI : S ≠ s.heap.objs.size := Nat.ne_of_lt (Heap.lt_size hS)
  have hSf : S ∉ [s.heap.objs.size] := fun hm => hSI (List.mem_singleton.mp hm)
  unfold Builtin.List.listExtendWith
  refine wpAny_bind (wpAny_typeOf (T := "bytes") (v := .bytes b t) rfl ?_)
  have h1 : Builtin.List.listSameRef (.ref S) (.bytes b t) = false := rfl
  have h2 : (Value.type "bytes" == Value.type "list") = false := by decide
  have h3 : (Value.type "bytes" == Value.type "tuple") = false := by decide
  simp only [h1, h2, h3, Bool.or_false, Bool.false_eq_true, if_false]
  refine wpAny_bind (KBw.pyIter_bytes ?_)
  refine wpAny_bind (wpAny_holding (hint_bytes ?_))
  rw [if_neg (by decide)]
  have W := KBw.walks (prog := prog) (w := w) (A := A.in1) hh s.heap.objs.size b t
  refine wpAny_pure ⟨plainId_quiet F.plain_extend_loop _, codeAny_extend_loopS W.toS hn _ hSf _ b.size 0 _ _ _ rfl (Nat.zero_le _) ⟨_, Heap.get?_push_size _ rfl, rfl, rfl⟩ (Heap.get?_push_of_some _ hS) (ItemsOf.nil _) fun s' acc' c' hm hS' hacc => ?_⟩
  rw [Moved.eq_with hm]
  refine hR s'.heap s'.toks acc' c' (fun b ob hb e => hm.heap b ob (fun hmem => ?_) (Heap.get?_push_of_some _ e)) hS' hacc
  rcases List.mem_cons.mp hmem with e' | hmem
  · exact hb e'
  · exact absurd (Heap.lt_size e) (by rw [List.mem_singleton.mp hmem]; exact Nat.lt_irrefl _)
theorem init_bytes {R : Result → Shared → Prop} (hh : A.handled = none) (b : Array UInt8) (t : Tok) (S : Addr) (hS : s.heap.get? S = some { cls := .type "list", data := .seq #[] })
    (hR : ∀ h' tk acc' c', (∀ b o, b ≠ S → s.heap.get? b = some o → h'.get? b = some o) → h'.get? S = some { cls := .type "list", dict := none, data := .seq acc' c', slots := #[] } →
      ItemsOf (ByteAt b) acc' b.size → R (.ok (.ret .none)) { s with heap := h', toks := tk }) (hn : b.size ≤ sizeLine) :
    wpAny (model prog w) A.in1 (Builtin.«list.__init__» ⟨[.ref S, .bytes b t], []⟩)
      (fun fin s' => match fin with | .done f => R (.ok f) s' | .again c' => c'.quiet = true ∧ codeAny (model prog w) A c' R s') (fun e s' => R (.error e) s') s := by
  show wpAny _ _ (do let old ← Builtin.List.listItems (.ref S); Builtin.List.listUpdate (.ref S) (fun _ => #[]); letGo old.toList.reverse; Builtin.List.listExtendWith (.ref S) (.bytes b t) .none) _ _ s
  refine wpAny_bind ?_
  unfold Builtin.List.listItems
  refine wpAny_bind (wpAny_seqItems hS rfl (wpAny_pure ?_))
  show wpAny _ _ (updateSeq S (fun _ => #[]) >>= fun _ => letGo (#[] : Array Value).toList.reverse >>= fun _ => Builtin.List.listExtendWith (.ref S) (.bytes b t) .none) _ _ s
  refine wpAny_bind (wpAny_updateSeq hS rfl ?_)
  have hS₂ := Heap.get?_update_self (Obj.mapSeq (fun _ => (#[] : Array Value))) hS rfl
  refine wpAny_bind (wpAny_letGo ?_)
  refine extend_bytes hh b t S .none _ hS₂ (fun h' tk acc' c' hk hS' hacc => ?_) hn
  exact hR h' tk acc' c' (fun b o hb e => hk b o hb ((Heap.get?_update_other _ _ (Ne.symm hb)).trans e)) hS' hacc
theorem list_bytes {Q : Value → Shared → Prop} (hh : A.handled = none) (b : Array UInt8) (t : Tok)
    (hQ : ∀ h' tk acc' c', (∀ b o, s.heap.get? b = some o → h'.get? b = some o) →
      h'.get? s.heap.objs.size = some { cls := .type "list", dict := none, data := .seq acc' c', slots := #[] } → ItemsOf (ByteAt b) acc' b.size → Q (.ref s.heap.objs.size) { s with heap := h', toks := tk }) (hn : b.size ≤ sizeLine) :
    wpAny (model prog w) A (call (.type "list") [.bytes b t]) Q E s := by
  refine callType_codes (Q₁ := fun obj s₁ => obj = .ref s.heap.objs.size ∧ s₁ = { s with heap := s.heap.push { cls := .type "list", data := .seq #[] } }) F.called_list (F.typeCall_list_1 _) F.entry_list_init
    (code_list_new _ ⟨rfl, rfl⟩) fun obj s₁ h₁ => ?_
  obtain ⟨rfl, rfl⟩ := h₁
  have hS : (s.heap.push { cls := .type "list", data := .seq #[] }).get? s.heap.objs.size = some { cls := .type "list", data := .seq #[] } := Heap.get?_push_size _ rfl
  refine ⟨⟨_, hS, rfl⟩, F.args_list_init_2 _ _, init_bytes (A := A.in1) hh b t _ hS (fun h' tk acc' c' hk hS' hacc => ?_) hn⟩
  exact ⟨rfl, hQ h' tk acc' c' (fun b o e => hk b o (Nat.ne_of_lt (Heap.lt_size e)) (Heap.get?_push_of_some _ e)) hS' hacc⟩
variable {g : Heap} {G : Array GenState} {O : OsState} {L : Addr} {m : List (Str × VP)} {objs : List (Addr × OP)} {env : Env} {names : List (Str × NameKind)} {cs : List (Str × Addr)}
theorem listB {b : Array UInt8} {t : Tok} {Q : Value → Shared → Prop} (hh : A.handled = none) (I : St g G O L m objs s) (hz : b.size ≤ 1000) (h : ∀ a s', St g G O L m (objs ++ [(a, isLI (KBw.bInts b))]) s' → Q (.ref a) s') :
    wpAny (model prog w) A (call (.type "list") [.bytes b t]) Q E s := by
  refine list_bytes hh b t (fun h' tk acc' c' hk hS hacc => h _ _ ?_) (by rw [sizeLine_eq]; omega)
  refine I.grow (news := [(s.heap.objs.size, isLI (KBw.bInts b))]) hk (fun p hp => ?_) (by simp) rfl rfl
  obtain rfl := List.mem_singleton.mp hp
  refine ⟨⟨_, hS, acc'.toList, c', rfl, ?_⟩, Nat.le_refl _⟩
  refine ⟨by rw [List.length_map, KBw.ints_length, Array.length_toList, hacc.1], fun i P v hi hv => ?_⟩
  have hv' : acc'[i]? = some v := by simpa using hv
  obtain ⟨c, u, hc, rfl⟩ := hacc.2 i v hv'
  rw [List.getElem?_map, KBw.ints_get hc] at hi
  cases hi
  exact ⟨u, rfl⟩
noncomputable def isBit (b : Array UInt8) (t : Tok) (k : Nat) : OP := fun o => o.cls = .type "bytes_iterator" ∧ o.data = .fields #[.bytes b t, .int k 0]
theorem It.bytes (hh : A.handled = none) (it : Addr) (b : Array UInt8) (t : Tok) : It prog w A it [] b.size (fun k => isI ((KBw.bInts b).getD k 0)) (fun k => [(it, isBit b t k)]) where
  next := fun {g G O L m objs s Q E} k hk hsrc I hQ => by
    obtain ⟨⟨o, h1, h2, h3⟩, _⟩ := I.led _ last_mem
    have e : (KBw.bInts b).getD k 0 = ((b[k].toNat : Nat) : Int) := by
      have e := KBw.ints_get (b := b) (i := k) (c := b[k]) (by simp [hk])
      rw [List.getD_eq_getElem?_getD, e]; rfl
    rw [e] at hQ
    refine KBw.next_item (it := it) (i := k) (b := b) (t := t) (c := b[k]) ⟨o, h1, h2, h3⟩ (by simp [hk]) fun h' ⟨o', h1', h2', h3'⟩ hs => ?_
    refine hQ _ _ ⟨_, rfl⟩ ?_
    · have := I.upd (P' := isBit b t (k + 1)) last_get hs ⟨o', h1', h2', h3'⟩ (s' := { s with heap := h', toks := s.toks + 1 }) rfl rfl rfl
      rwa [last_set] at this
  done := fun {g G O L m objs s Q E} hsrc I hQ => by
    obtain ⟨⟨o, h1, h2, h3⟩, _⟩ := I.led _ last_mem
    exact KBw.next_end hh (it := it) (i := b.size) (b := b) (t := t) ⟨o, h1, h2, h3⟩ (by simp) fun h' hs => hQ _ (I.dropLast hs rfl rfl rfl)
  self := fun {g G O L m objs s Q E} k I h => by
    obtain ⟨⟨o, h1, h2, h3⟩, _⟩ := I.led _ last_mem
    exact KBw.pyIter_self (it := it) (i := k) (b := b) (t := t) ⟨o, h1, h2, h3⟩ h
theorem iterB {b : Array UInt8} {t : Tok} {Q : Value → Shared → Prop} (I : St g G O L m objs s) (h : ∀ a s', St g G O L m (objs ++ [(a, isBit b t 0)]) s' → Q (.ref a) s') : wpAny (model prog w) A (pyIter (.bytes b t)) Q E s :=
  KBw.pyIter_bytes (h _ _ (I.push rfl ⟨rfl, rfl⟩ rfl rfl rfl))
end
end Mine
end
-- MX9
section
open PySem PySem.W PyProof.Rows
set_option maxRecDepth 100000
set_option maxHeartbeats 4000000
namespace Mine
open PySem.Spec PySem.SeqAt in
section
/-- a list of lists of ints, as data -/
noncomputable def datW (W : List (List Int)) : List PyData := W.map fun l => .list (l.map PyData.int)
theorem datW_can : ∀ W : List (List Int), PyData.canLayAll0 (datW W) = true
  | [] => by simp [datW, PyData.canLayAll0]
  | l :: r => by
    show PyData.canLayAll0 (.list (l.map PyData.int) :: datW r) = true
    rw [PyData.canLayAll0, datW_can r, PyData.canLay0, canLayAll0_ints]; rfl
theorem datW_depth : ∀ W : List (List Int), PyData.depthAll (datW W) ≤ 2
  | [] => by simp [datW, PyData.depthAll]
  | l :: r => by
    show PyData.depthAll (.list (l.map PyData.int) :: datW r) ≤ 2
    have h1 := datW_depth r
    have h2 := PySem.W.depthAll_ints l
    rw [PyData.depthAll, PyData.depth]
    omega
theorem datW_shaped (W : List (List Int)) : SeqAt.shaped (.list (datW W)) = true := by
  have h1 := datW_depth W
  have h2 : PyData.depth (.list (datW W)) ≤ 64 := by rw [PyData.depth]; omega
  show (PyData.canLay0 (.list (datW W)) && decide (PyData.depth (.list (datW W)) ≤ 64)) = true
  rw [Bool.and_eq_true]
  exact ⟨by rw [PyData.canLay0]; exact datW_can W, decide_eq_true h2⟩
theorem datW_noMix : ∀ W : List (List Int), noMixAll (datW W) (datW W) = true
  | [] => by simp [datW, noMixAll]
  | l :: r => by
    show noMixAll (.list (l.map PyData.int) :: datW r) (.list (l.map PyData.int) :: datW r) = true
    rw [noMixAll, datW_noMix r, noMix, noMix_ints]; rfl
theorem datW_same : ∀ W : List (List Int), PySem.Spec.sameAll (datW W) (datW W) = true
  | [] => by simp [datW, PySem.Spec.sameAll]
  | l :: r => by
    show PySem.Spec.sameAll (.list (l.map PyData.int) :: datW r) (.list (l.map PyData.int) :: datW r) = true
    rw [PySem.Spec.sameAll, datW_same r, PySem.Spec.same, same_ints]; simp
end
section
variable {prog : Program} {w : World} {A : Around} {E : Value → Shared → Prop} {s : Shared}
variable {g : Heap} {G : Array GenState} {O : OsState} {L : Addr} {m : List (Str × VP)} {objs : List (Addr × OP)} {env : Env} {names : List (Str × NameKind)} {cs : List (Str × Addr)}
theorem reads_fam (I : St g G O L m objs s) : ∀ (was : List Addr) (W : List (List Int)), was.length = W.length → (∀ p ∈ fam was W, p ∈ objs) → ∀ vs : List Value, Fit (was.map vref) vs → ∃ as, ReadsAll s.heap vs (datW W) as
  | [], [], _, _, vs, hf => by
    have : vs = [] := List.length_eq_zero_iff.mp hf.1.symm
    subst this; exact ⟨[], .nil⟩
  | [], _ :: _, h, _, _, _ => by simp at h
  | _ :: _, [], h, _, _, _ => by simp at h
  | a :: was, l :: W, h, hm, vs, hf => by
    match vs, hf with
    | [], hf => have := hf.1; simp at this
    | v :: vs, hf =>
      have hv : v = .ref a := hf.2 0 (vref a) v rfl rfl
      subst hv
      obtain ⟨as, hr⟩ := reads_fam I was W (by simpa using h) (fun p hp => hm p (.tail _ hp)) vs ⟨by have := hf.1; simpa using this, fun i P v hi hv => hf.2 (i + 1) P v hi hv⟩
      obtain ⟨us, n, h1, h2⟩ := I.memList (hm (a, isLI l) (.head _))
      exact ⟨_, .cons (reads_of_ints (isList_of h1) (fit_ints h2)) hr⟩
theorem tNeFam {i j : Nat} {a b : Addr} {was wbs : List Addr} {W : List (List Int)} {Q : Bool → Shared → Prop} (I : St g G O L m objs s) (hi : objs[i]? = some (a, isL (was.map vref))) (hj : objs[j]? = some (b, isL (wbs.map vref))) (hu : A.units + 64 < cLine)
    (h1 : was.length = W.length) (h2 : wbs.length = W.length) (h3 : ∀ p ∈ fam was W, p ∈ objs) (h4 : ∀ p ∈ fam wbs W, p ∈ objs) (h : Q false s) :
    wpAny (model prog w) A (compareOp .NotEq (.ref a) (.ref b)) (fun c s₃ => wpAny (model prog w) A (truthy c) Q E s₃) E s := by
  obtain ⟨vs, n, e1, f1⟩ := I.list hi
  obtain ⟨us, n', e2, f2⟩ := I.list hj
  obtain ⟨as, r1⟩ := reads_fam I was W h1 h3 vs f1
  obtain ⟨bs, r2⟩ := reads_fam I wbs W h2 h4 us f2
  have ra : Reads s.heap (.ref a) (.list (datW W)) (a :: as) := Reads.list e1 rfl rfl (by simpa using r1)
  have rb : Reads s.heap (.ref b) (.list (datW W)) (b :: bs) := Reads.list e2 rfl rfl (by simpa using r2)
  refine ne_dataH_same ra rb (datW_shaped W) (datW_shaped W) hu (by rw [PySem.SeqAt.noMix]; exact datW_noMix W) (wpAny_truthy_bool ?_)
  rw [PySem.Spec.same, datW_same]
  exact h
end
end Mine
end
-- MX10
section
open PySem PySem.W PyProof.Rows
set_option maxRecDepth 100000
set_option maxHeartbeats 4000000
namespace Mine
noncomputable def isEn (it : Addr) (k : Nat) : OP := fun o => ∃ old, o = { cls := .type "enumerate", dict := none, data := .fields #[.none, .bool false, .ref it, rawInt k, .none, old], slots := #[] }
section
variable {prog : Program} {w : World} {A : Around} {E : Value → Shared → Prop} {s : Shared}
variable {g : Heap} {G : Array GenState} {O : OsState} {L : Addr} {m : List (Str × VP)} {objs : List (Addr × OP)} {env : Env} {names : List (Str × NameKind)} {cs : List (Str × Addr)}
theorem It2.enum (hh : A.handled = none) (e it l : Addr) (ps : List VP) (hne : e ≠ it) : It2 prog w A e [(l, isL ps)] ps.length (fun k => isI k) (fun k v => ∀ P, ps[k]? = some P → P v) (fun k => [(e, isEn it k), (it, isLit l k)]) where
  next := fun {g G O L m objs s elts x1 pos R Q E} k hk hsrc I hQ => by
    obtain ⟨vs, n, hl, hf⟩ := I.memList (List.mem_append_left _ (hsrc _ (.head _)))
    obtain ⟨⟨oe, e1, old, rfl⟩, _⟩ := I.led (e, isEn it k) (List.mem_append_right _ (.head _))
    obtain ⟨⟨oi, i1, i2, i3⟩, _⟩ := I.led (it, isLit l k) (List.mem_append_right _ (.tail _ (.head _)))
    obtain ⟨v, hv, hP⟩ := hf.get (List.getElem?_eq_getElem hk)
    refine wpAny_pyNext_enum_item (l := l) e1 ⟨oi, i1, i2, i3⟩ (isList_of hl) (by simpa using hv) hne fun h' heo hit ht hz hkk => ?_
    refine wpAny_letOwnedTupleGo_enum heo fun h'' he'' hs'' => ?_
    have nse : s.heap.objs.size ≠ e := Ne.symm (Nat.ne_of_lt (Heap.lt_size e1))
    refine hQ _ _ v _ ⟨_, rfl⟩ (fun P q => by rw [List.getElem?_eq_getElem hk] at q; cases q; exact hP) ?_ ⟨_, (hs''.2 _ nse).trans ht, rfl, 0, rfl⟩
    refine I.relay (J' := [(e, isEn it (k + 1)), (it, isLit l (k + 1))]) rfl (fun b o hb q => ?_) (fun p hp => ?_) rfl rfl
    · have hb' : b ≠ e ∧ b ≠ it := by simpa using hb
      exact (hs''.2 b hb'.1).trans (hkk b o hb'.1 hb'.2 q)
    · simp only [List.mem_cons, List.not_mem_nil, or_false] at hp
      rcases hp with rfl | rfl
      · exact ⟨_, he'', _, rfl⟩
      · obtain ⟨o', a1, a2, a3⟩ := hit
        exact ⟨o', (hs''.2 it (Ne.symm hne)).trans a1, a2, a3⟩
  done := fun {g G O L m objs s Q E} hsrc I hQ => by
    obtain ⟨vs, n, hl, hf⟩ := I.memList (List.mem_append_left _ (hsrc _ (.head _)))
    obtain ⟨⟨oe, e1, old, rfl⟩, _⟩ := I.led (e, isEn it ps.length) (List.mem_append_right _ (.head _))
    obtain ⟨⟨oi, i1, i2, i3⟩, _⟩ := I.led (it, isLit l ps.length) (List.mem_append_right _ (.tail _ (.head _)))
    refine wpAny_pyNext_enum_end hh (l := l) e1 ⟨oi, i1, i2, i3⟩ (isList_of hl) (by simp [hf.1]) fun h' hs => hQ _ ?_
    have I1 : St g G O L m ((objs ++ [(e, isEn it ps.length)]) ++ [(it, isLit l ps.length)]) s := I.cast (by rw [List.append_assoc]; rfl)
    exact (I1.dropLast (p := (it, isLit l ps.length)) hs (s' := { s with heap := h' }) rfl rfl rfl).cut rfl
  self := fun {g G O L m objs s Q E} k I h => by
    obtain ⟨⟨oe, e1, old, rfl⟩, _⟩ := I.led (e, isEn it k) (List.mem_append_right _ (.head _))
    have hT : s.TypeIs (.ref e) "enumerate" := ⟨_, e1, rfl⟩
    refine wpAny_pyIter_slot hT F.slot_enumerate_iter (wpAny_call_entry F.slot_enumerate_iter hT (by first | exact F.entry_enumerate_iter | exact entryFor_of_tree (by kernel_rfl)) ?_ (F.args_enumerate_iter_1 _))
    show wpAny _ _ (ret (.ref e)) _ _ s
    exact wpAny_pure ⟨_, rfl, "enumerate", _, hT, F.slot_enumerate_next.lookup, h⟩
theorem callEnum {i : Nat} {l : Addr} {ps : List VP} {Q : Value → Shared → Prop} (I : St g G O L m objs s) (hi : objs[i]? = some (l, isL ps)) (h : ∀ e it s', e ≠ it → St g G O L m (objs ++ [(e, isEn it 0), (it, isLit l 0)]) s' → Q (.ref e) s') :
    wpAny (model prog w) A (call (.type "enumerate") [.ref l]) Q E s := by
  obtain ⟨vs, n, hl, hf⟩ := I.list hi
  refine call_enumerate_list (isList_of hl) fun h' he hit hz hk => h (s.heap.objs.size + 1) s.heap.objs.size _ (Nat.succ_ne_self _) (I.grow hk (fun p hp => ?_) (by simp) rfl rfl)
  simp only [List.mem_cons, List.not_mem_nil, or_false] at hp
  rcases hp with rfl | rfl
  · exact ⟨⟨_, he, _, rfl⟩, by simp⟩
  · exact ⟨hit, by simp⟩
theorem addLL {i j : Nat} {a b : Addr} {ns ms : List Int} {Q : Value → Shared → Prop} (I : St g G O L m objs s) (hi : objs[i]? = some (a, isLI ns)) (hj : objs[j]? = some (b, isLI ms)) (hz : ns.length + ms.length ≤ 1000)
    (h : ∀ c s', St g G O L m (objs ++ [(c, isLI (ns ++ ms))]) s' → Q (.ref c) s') : wpAny (model prog w) A (binaryOp .Add (.ref a) (.ref b)) Q E s := by
  obtain ⟨vs, n, hl, hf⟩ := I.ints hi
  obtain ⟨us, n', hl', hf'⟩ := I.ints hj
  refine concat_meets ⟨_, hl, rfl⟩ ⟨_, hl', rfl⟩ noFill_list_add seq_list_add PySem.F.slot_list_add PySem.F.entry_list_add (PySem.F.args_list_add_2 _ _) (list_addW a b vs.toArray us.toArray n n' none none #[] #[] (by rw [List.size_toArray, List.size_toArray, hf.length, hf'.length, sizeLine_eq]; omega)) ⟨hl, hl', ?_⟩
  refine h _ _ (I.push (o := { cls := .type "list", data := .seq (vs.toArray ++ us.toArray) }) (P := isLI (ns ++ ms)) rfl ?_ rfl rfl rfl)
  exact ⟨vs ++ us, 0, by simp, ints_fit (hf.append hf')⟩
theorem idxM {i : Nat} {l : Addr} {ns : List Int} {e : Expr} {pos : Pos} {Q : Value → Shared → Prop} (I : St g G O L m objs s) (hi : objs[i]? = some (l, isLI ns)) (hlay : PyData.layable0 (.list (ns.map .int)) = true)
    (h : wpAny (model prog w) A (eval e env) (fun v s₂ => ∃ k t, v = .int k t ∧ k ∈ ns ∧ St g G O L m objs s₂ ∧ ∀ t' s', St g G O L m objs s' → Q (.int (ns.idxOf k : Nat) t') s') E s) :
    MethodOn prog w A "index" pos (.ref l) [(false, eval e env)] Q E s := by
  refine methL (M := model prog w) I hi PySem.F.slot_list_index PySem.F.type_list_index ?_
  refine Calls.callWith_builtin rfl (Calls.evalArgs_plain (Calls.spliced_cons (wpAny_mono h (fun v s₂ h₂ => Calls.spliced_nil ?_) fun _ _ x => x)))
  obtain ⟨k, t, rfl, hk, I2, hQ⟩ := h₂
  obtain ⟨vs, n, hl, hf⟩ := I2.ints hi
  exact index_list_ints (isList_of hl) hf hlay hk (hQ _ _ (I2.tk _))
end
end Mine
end
-- MX11
section
open PySem PySem.W PyProof.Rows
set_option maxRecDepth 100000
set_option maxHeartbeats 4000000
namespace Mine
theorem compTurn_out (elt t1 i1 t2 i2 : Expr) (scope : Scope) (pos : Pos) (it acc : Value) (env : Env) :
    compTurn (.ListComp elt [⟨t1, i1, [], 0⟩, ⟨t2, i2, [], 0⟩] scope pos) 0 it acc env = (do
      standAt i1.pos
      match ← pyNext it with
      | none => pure (.done .next)
      | some v =>
        letOwnedTupleGo t1 it v
        assign t1 env v
        let x ← eval i2 env
        standAt i2.pos
        let x ← foldedSetIterable i2 env x
        let it' ← holding [x] (pyIter x)
        let _ ← runOwn (.compStart (.ListComp elt [⟨t1, i1, [], 0⟩, ⟨t2, i2, [], 0⟩] scope pos) 1 it' acc env) env
        again (.compLoop (.ListComp elt [⟨t1, i1, [], 0⟩, ⟨t2, i2, [], 0⟩] scope pos) 0 it acc env)) := by rfl
theorem compTurn_in (elt t1 i1 t2 i2 : Expr) (scope : Scope) (pos : Pos) (it acc : Value) (env : Env) :
    compTurn (.ListComp elt [⟨t1, i1, [], 0⟩, ⟨t2, i2, [], 0⟩] scope pos) 1 it acc env = (do
      standAt i2.pos
      match ← pyNext it with
      | none => pure (.done .next)
      | some v =>
        letOwnedTupleGo t2 it v
        assign t2 env v
        (do let _ ← call (.builtin "list.append") [acc, ← eval elt env])
        again (.compLoop (.ListComp elt [⟨t1, i1, [], 0⟩, ⟨t2, i2, [], 0⟩] scope pos) 1 it acc env)) := by rfl
section
variable {prog : Program} {w : World} {A : Around} {E : Value → Shared → Prop} {R : Result → Shared → Prop} {s : Shared}
theorem loopD_any {kx vx target iter : Expr} {ifs : List Expr} {scope : Scope} {pos : Pos} {it : Value} {D : Addr} {env : Env} (I : Nat → Shared → Prop)
    (turn : ∀ n s, I n s → ∀ E', wpAny (model prog w) A (pyNext it) (fun r s₁ => match r with
      | none => R (.ok .next) s₁
      | some v => wpAny (model prog w) A (letOwnedTupleGo target it v) (fun _ s₁ => wpAny (model prog w) A (assign target env v) (fun _ s₂ =>
          wpAny (model prog w) A (forIn ifs true fun c r => if r = true then do let ok ← isTrue c env (eval c env); pure (ForInStep.yield ok) else pure (ForInStep.yield r)) (fun ok s₃ =>
            if ok = true then wpAny (model prog w) A (eval kx env) (fun kv s₄ => wpAny (model prog w) A (eval vx env) (fun vv s₅ =>
              wpAny (model prog w) A (dictSet D kv vv) (fun _ s₆ => ∃ m, m < n ∧ I m s₆) E' s₅) E' s₄) E' s₃
            else ∃ m, m < n ∧ I m s₃) E' s₂) E' s₁) E' s₁) E' s)
    (n : Nat) (h : I n s) :
    codeAny (model prog w) A (.compLoop (.DictComp kx vx [⟨target, iter, ifs, 0⟩] scope pos) 0 it (.ref D) env) R s := by
  refine codeAny_loop rfl I (fun n s hI => ?_) n h
  show wpAny _ A ((compTurn (.DictComp kx vx [⟨target, iter, ifs, 0⟩] scope pos) 0 it (.ref D) env).onRaise (fun x => do noteFrame x env; theTreesLotGoes x)) _ _ s
  refine wpAny_noted ?_
  rw [compTurn_dict]
  refine wpAny_bind (wpAny_standAt (wpAny_bind (wpAny_mono (turn n s hI _) (fun r s₁ h₁ => ?_) fun _ _ h' => h')))
  cases r with
  | none => exact wpAny_pure h₁
  | some v =>
    refine wpAny_bind (wpAny_mono h₁ (fun _ s₁' h₁' => wpAny_bind (wpAny_mono h₁' (fun _ s₂ h₂ => wpAny_bind (wpAny_mono h₂ (fun ok s₃ h₃ => ?_) fun _ _ h' => h')) fun _ _ h' => h')) fun _ _ h' => h')
    cases ok with
    | false => exact wpAny_pure ⟨rfl, h₃⟩
    | true =>
      exact wpAny_bind (wpAny_bind (wpAny_mono h₃ (fun kv s₄ h₄ => wpAny_bind (wpAny_holding (wpAny_mono h₄ (fun vv s₅ h₅ => wpAny_bind (wpAny_standAt (wpAny_holding (wpAny_mono h₅ (fun _ s₆ h₆ => wpAny_pure ⟨rfl, h₆⟩) fun _ _ h' => h')))) fun _ _ h' => h'))) fun _ _ h' => h'))
theorem start1 {elt : Expr} {g1 : Comprehension} {t2 i2 : Expr} {scope : Scope} {pos : Pos} {it acc : Value} {env : Env}
    (h0 : codeAny (model prog w) A (.compLoop (.ListComp elt [g1, ⟨t2, i2, [], 0⟩] scope pos) 1 it acc env) R s)
    (h : wpAny (model prog w) A (pyIter it) (fun it' s' => codeAny (model prog w) A (.compLoop (.ListComp elt [g1, ⟨t2, i2, [], 0⟩] scope pos) 1 it' acc env) R s')
      (notedBy (model prog w) A env fun x s' => R (.error x) s') s) :
    codeAny (model prog w) A (.compStart (.ListComp elt [g1, ⟨t2, i2, [], 0⟩] scope pos) 1 it acc env) R s := by
  refine codeAny_of_tree ?_
  show wpAny _ _ ((compStart (.ListComp elt [g1, ⟨t2, i2, [], 0⟩] scope pos) 1 it acc env).onRaise (fun x => do noteFrame x env; standAt theWindowsPlace)) _ _ s
  refine wpAny_notedAt ?_
  unfold compStart
  show wpAny _ _ (ask >>= _) _ _ s
  refine wpAny_bind (wpAny_askSetting (wpAny_ite ?_))
  split
  · first
      | exact wpAny_bind (wpAny_pure (wpAny_pure (And.intro rfl h0)))
      | exact wpAny_pure (And.intro rfl h0)
  · first
      | exact wpAny_bind (wpAny_rule (wpAny_bind (wpAny_standAt (wpAny_bind (wpAny_mono h (fun it' s' h' => wpAny_pure (And.intro rfl h')) fun _ _ x => x)))))
      | (refine wpAny_bind (wpAny_rule ?_); show wpAny _ _ (standAt i2.pos >>= _) _ _ s; exact wpAny_bind (wpAny_standAt (wpAny_bind (wpAny_mono h (fun it' s' h' => wpAny_pure (And.intro rfl h')) fun _ _ x => x))))
theorem loop_out {elt t1 i1 t2 i2 : Expr} {scope : Scope} {pos : Pos} {it acc : Value} {env : Env} (I : Nat → Shared → Prop)
    (turn : ∀ n s, I n s → ∀ E' E'' : Value → Shared → Prop, wpAny (model prog w) A (pyNext it) (fun r s₁ => match r with
      | none => R (.ok .next) s₁
      | some v => wpAny (model prog w) A (assign t1 env v) (fun _ s₂ => wpAny (model prog w) A (eval i2 env) (fun x s₃ => wpAny (model prog w) A (pyIter x) (fun it' s₄ =>
          codeAny (model prog w) A (.compStart (.ListComp elt [⟨t1, i1, [], 0⟩, ⟨t2, i2, [], 0⟩] scope pos) 1 it' acc env) (fun r s₅ => match r with | .ok _ => ∃ m, m < n ∧ I m s₅ | .error e => E'' e s₅) s₄) E' s₃) E' s₂) E' s₁) E' s)
    (n : Nat) (h : I n s) (ht : ∀ v, letOwnedTupleGo t1 it v = pure () := by intro _; rfl) (hs : ∀ x, foldedSetIterable i2 env x = pure x := by intro _; rfl) :
    codeAny (model prog w) A (.compLoop (.ListComp elt [⟨t1, i1, [], 0⟩, ⟨t2, i2, [], 0⟩] scope pos) 0 it acc env) R s := by
  refine codeAny_loop rfl I (fun n s hI => ?_) n h
  show wpAny _ A ((compTurn (.ListComp elt [⟨t1, i1, [], 0⟩, ⟨t2, i2, [], 0⟩] scope pos) 0 it acc env).onRaise (fun x => do noteFrame x env; theTreesLotGoes x)) _ _ s
  refine wpAny_noted ?_
  rw [compTurn_out]
  refine wpAny_bind (wpAny_standAt (wpAny_bind (wpAny_mono (turn n s hI _ (cameBackBy (model prog w) A env (notedBy (model prog w) A env fun e s' => R (.error e) s'))) (fun r s₁ h₁ => ?_) fun _ _ h' => h')))
  cases r with
  | none => exact wpAny_pure h₁
  | some v =>
    refine wpAny_bind (wpAny_of_eq (ht v) ?_)
    refine wpAny_bind (wpAny_mono h₁ (fun _ s₂ h₂ => ?_) fun _ _ h' => h')
    refine wpAny_bind (wpAny_mono h₂ (fun x s₃ h₃ => ?_) fun _ _ h' => h')
    refine wpAny_bind (wpAny_standAt (wpAny_bind (wpAny_of_eq (hs x) ?_)))
    refine wpAny_bind (wpAny_holding (wpAny_mono h₃ (fun it' s₄ h₄ => ?_) fun _ _ h' => h'))
    refine wpAny_bind (wpAny_runOwn (codeAny_mono h₄ (fun r s₅ h₅ => ?_)))
    cases r with
    | ok f => exact wpAny_pure ⟨rfl, h₅⟩
    | error e => exact h₅
theorem loop_in {elt t1 i1 t2 i2 : Expr} {scope : Scope} {pos : Pos} {it acc : Value} {env : Env} (I : Nat → Shared → Prop)
    (turn : ∀ n s, I n s → ∀ E' : Value → Shared → Prop, wpAny (model prog w) A (pyNext it) (fun r s₁ => match r with
      | none => R (.ok .next) s₁
      | some v => wpAny (model prog w) A (assign t2 env v) (fun _ s₂ => wpAny (model prog w) A (eval elt env) (fun x s₃ => wpAny (model prog w) A (call (.builtin "list.append") [acc, x]) (fun _ s₄ => ∃ m, m < n ∧ I m s₄) E' s₃) E' s₂) E' s₁) E' s)
    (n : Nat) (h : I n s) (ht : ∀ v, letOwnedTupleGo t2 it v = pure () := by intro _; rfl) :
    codeAny (model prog w) A (.compLoop (.ListComp elt [⟨t1, i1, [], 0⟩, ⟨t2, i2, [], 0⟩] scope pos) 1 it acc env) R s := by
  refine codeAny_loop rfl I (fun n s hI => ?_) n h
  show wpAny _ A ((compTurn (.ListComp elt [⟨t1, i1, [], 0⟩, ⟨t2, i2, [], 0⟩] scope pos) 1 it acc env).onRaise (fun x => do noteFrame x env; theTreesLotGoes x)) _ _ s
  refine wpAny_noted ?_
  rw [compTurn_in]
  refine wpAny_bind (wpAny_standAt (wpAny_bind (wpAny_mono (turn n s hI _) (fun r s₁ h₁ => ?_) fun _ _ h' => h')))
  cases r with
  | none => exact wpAny_pure h₁
  | some v =>
    refine wpAny_bind (wpAny_of_eq (ht v) ?_)
    refine wpAny_bind (wpAny_mono h₁ (fun _ s₂ h₂ => ?_) fun _ _ h' => h')
    exact wpAny_bind (wpAny_bind (wpAny_mono h₂ (fun x s₃ h₃ => wpAny_bind (wpAny_mono h₃ (fun _ s₄ h₄ => wpAny_pure (wpAny_pure ⟨rfl, h₄⟩)) fun _ _ h' => h')) fun _ _ h' => h'))
end
end Mine
end
-- MX12
section
open PySem PySem.W PyProof.Rows
set_option maxRecDepth 100000
set_option maxHeartbeats 4000000
namespace Mine
section
variable {prog : Program} {w : World} {A : Around} {E : Value → Shared → Prop} {s : Shared}
variable {g : Heap} {G : Array GenState} {O : OsState} {L : Addr} {m : List (Str × VP)} {objs : List (Addr × OP)} {env : Env} {names : List (Str × NameKind)} {cs : List (Str × Addr)}

theorem compD2 {kx vx iter : Expr} {x y : Str} {px py tpos : Pos} {x1 : Nat} {ifs : List Expr} {scope : Scope} {pos : Pos} {cl : List (Str × Addr)} {Q : Value → Shared → Prop}
    {it : Addr} {src : List (Addr × OP)} {n : Nat} {P1 P2 : Nat → VP} {J : Nat → List (Addr × OP)} (hh : A.handled = none) (W : It2 prog w A it src n P1 P2 J) (HE : EnvIs env L names cs)
    (Inv : Nat → List (Int × VP) → List (Addr × OP) → Prop) (h0 : Inv 0 [] objs) (hsrc : ∀ k qs objs', Inv k qs objs' → ∀ p ∈ src, p ∈ objs') (hlen : ∀ k qs objs', Inv k qs objs' → qs.length ≤ 1000) (I : St g G O L m (objs ++ J 0) s)
    (turn : ∀ k g' C cenv s' qs objs', (∀ b o, g.get? b = some o → g'.get? b = some o) → EnvIs cenv C (relN scope.names names) cl → k < n → Inv k qs objs' → St g' G O C [(y, P2 k), (x, P1 k)] objs' s' → ∀ E',
      wpAny (model prog w) A (forIn ifs true fun c r => if r = true then do let ok ← isTrue c cenv (eval c cenv); pure (ForInStep.yield ok) else pure (ForInStep.yield r)) (fun ok s₂ => if ok = true then
        wpAny (model prog w) A (eval kx cenv) (fun kv s₃ => wpAny (model prog w) A (eval vx cenv) (fun v s₄ => ∃ m'' objs'' i t PV, kv = .int i t ∧ PV v ∧ i ∉ qs.map (·.1) ∧ Inv (k + 1) (qs ++ [(i, PV)]) objs'' ∧ St g' G O C m'' objs'' s₄) E' s₃) E' s₂
        else ∃ m'' objs'', Inv (k + 1) qs objs'' ∧ St g' G O C m'' objs'' s₂) E' s')
    (fin : ∀ a qs objs' s', Inv n qs objs' → St g G O L m (objs' ++ [(a, isD prog w qs)]) s' → Q (.ref a) s')
    (hcell : (scope.names.all fun y => y.2 != .cell) = true := by rfl) (hk : scope.kind = .function := by rfl) (hx : (relN scope.names names).lookup x = some .local := by rfl) (hy : (relN scope.names names).lookup y = some .local := by rfl) (hxy : (x == y) = false := by rfl) :
    wpAny (model prog w) A newDict (fun acc s₃ => wpAny (model prog w) A (newFunctionEnv scope env.globals cl [] env.qual none .none (some env)) (fun cenv s₄ =>
      codeAny (model prog w) A (.compStart (.DictComp kx vx [⟨.Tuple [.Name x px, .Name y py] x1 tpos, iter, ifs, 0⟩] scope pos) 0 (.ref it) acc { cenv with scope := relabel scope env }) (compPost (model prog w) A E none Q acc cenv.locals) s₄) E s₃) E s := by
  refine wpAny_newObj_type ?_
  generalize hD : s.heap.objs.size = D
  generalize hs3 : ({ s with heap := s.heap.push { cls := .type "dict", data := .dict #[] } } : Shared) = s3
  have I3 : St g G O L m ((objs ++ J 0) ++ [(D, isD prog w [])]) s3 := by
    rw [← hD, ← hs3]
    exact I.push rfl ⟨[], ⟨#[], 0, ⟨rfl, rfl, rfl⟩, rfl, fun e he => by simp at he, .nil, .nil⟩, rfl, .nil⟩ rfl rfl rfl
  have I3' : St g G O L m ((objs ++ [(D, isD prog w [])]) ++ J 0) s3 := I3.perm (by
    rw [List.append_assoc, List.append_assoc]
    exact List.Perm.append_left _ (List.perm_append_comm ..))
  clear I3
  refine wpAny_newFunctionEnv (fun y hy => by simpa using List.all_eq_true.mp hcell y hy) (fun y hy => (nomatch hy)) (fun h' hns hsb => ?_) hk
  have hkeep : ∀ b o, s3.heap.get? b = some o → h'.get? b = some o := fun b o e => (hsb.2 b (Nat.ne_of_lt (Heap.lt_size e))).trans (Heap.get?_push_of_some _ e)
  generalize hC : s3.heap.objs.size = C at *
  have I4 : St (under s3 ((objs ++ [(D, isD prog w [])]) ++ J 0)) G O C [] ((objs ++ [(D, isD prog w [])]) ++ J 0) { s3 with heap := h', toks := s3.toks + ([] : List (Str × Value)).length } :=
    I3'.enter hns (fun x P hx => by cases hx) hkeep (Nat.le_of_eq hC) rfl rfl
  have hstay := I3'.stays
  have hleave : ∀ {L' : Addr} {m' : List (Str × VP)} {objs' : List (Addr × OP)} {s' : Shared}, St (under s3 ((objs ++ [(D, isD prog w [])]) ++ J 0)) G O L' m' objs' s' → St g G O L m objs' s' := fun I' => I3'.leave I'
  have hCL : C ≠ L := by
    obtain ⟨f, hf, _⟩ := I3'.ns
    exact Nat.ne_of_gt (hC ▸ hf.lt)
  have hCg : g.get? C = none := by
    cases q : g.get? C with
    | none => rfl
    | some o => exact absurd (Heap.lt_size (I3'.keep _ _ q)) (by rw [hC]; exact Nat.lt_irrefl _)
  generalize hg1 : under s3 ((objs ++ [(D, isD prog w [])]) ++ J 0) = g1 at *
  generalize hs4 : ({ s3 with heap := h', toks := s3.toks + ([] : List (Str × Value)).length } : Shared) = s4 at *
  have HC : EnvIs { (newEnv scope C env.globals cl env.qual none .none (some env) builtinsNs) with scope := relabel scope env } C (relN scope.names names) cl :=
    ⟨hk, relN_eq HE, rfl, HE.globals, HE.builtins, rfl⟩
  have loop : ∀ cenv, EnvIs cenv C (relN scope.names names) cl → codeAny (model prog w) A (.compLoop (.DictComp kx vx [⟨.Tuple [.Name x px, .Name y py] x1 tpos, iter, ifs, 0⟩] scope pos) 0 (.ref it) (.ref D) cenv) (compPost (model prog w) A E none Q (.ref D) C) s4 := by
    intro cenv HC
    refine loopD_any (I := fun k' s => ∃ k qs objs' m', k' = n - k ∧ k ≤ n ∧ Inv k qs objs' ∧ St g1 G O C m' ((objs' ++ [(D, isD prog w qs)]) ++ J k) s) ?_ n ⟨0, [], objs, [], rfl, Nat.zero_le _, h0, I4⟩
    rintro k' s5 ⟨k, qs, objs1, m1, rfl, hkn, hI, I5⟩ E'
    by_cases hlt : k < n
    · refine W.next k hlt (fun p hp => List.mem_append_left _ (hsrc _ _ _ hI p hp)) I5 fun T v1 v2 s6 h1 h2 I6 hT => ?_
      refine unpack2 hh HC I6 hT h1 h2 (fun s7 I7 => ?_) hx hy
      rw [List.append_assoc] at I7
      obtain ⟨g2, I8, hg2, back⟩ := I7.out
      have I9 := I8.loc (m' := [(y, P2 k), (x, P1 k)]) ⟨⟨P2 k, by simp [List.lookup_cons], fun _ x => x⟩, ⟨P1 k, by rw [List.lookup_cons, hxy]; simp [List.lookup_cons], fun _ x => x⟩, trivial⟩
      refine wpAny_mono (turn k g2 C cenv s7 qs objs1 (fun b o e => hg2 b o (hstay b o e)) HC hlt hI I9 _) (fun ok s8 h8 => ?_) fun _ _ x => x
      cases ok with
      | false =>
        rw [if_neg Bool.false_ne_true] at h8 ⊢
        obtain ⟨m2, objs2, hI2, I10⟩ := h8
        refine ⟨n - (k + 1), by omega, k + 1, qs, objs2, m2, rfl, hlt, hI2, ?_⟩
        have := back _ _ _ I10
        rwa [← List.append_assoc] at this
      | true =>
        rw [if_pos rfl] at h8 ⊢
        refine wpAny_mono h8 (fun kv s9 h9 => wpAny_mono h9 (fun v2 s9 ⟨m2, objs2, i, t, PV, hkv, hPV, hni, hI2, I10⟩ => ?_) fun _ _ x => x) fun _ _ x => x
        subst hkv
        have I11 := back _ _ _ I10
        have hz := hlen _ _ _ hI
        refine dsetD (i := objs2.length) (ps := qs) I11 (by simp) hni hPV (fun s10 I12 => ?_) hz
        refine ⟨n - (k + 1), by omega, k + 1, qs ++ [(i, PV)], objs2, m2, rfl, hlt, hI2, ?_⟩
        have e : (objs2 ++ ([(D, isD prog w qs)] ++ J (k + 1))).set objs2.length (D, isD prog w (qs ++ [(i, PV)])) = (objs2 ++ [(D, isD prog w (qs ++ [(i, PV)]))]) ++ J (k + 1) := by simp
        rwa [e] at I12
    · obtain rfl : k = n := by omega
      refine wpAny_mono (W.done (Q := fun r s₁ => r = none ∧ compPost (model prog w) A E none Q (.ref D) C (.ok .next) s₁) (fun p hp => List.mem_append_left _ (hsrc _ _ _ hI p hp)) I5 fun s6 I6 => ⟨rfl, ?_⟩) (fun r s6 ⟨hr, hq⟩ => by subst hr; exact hq) fun _ _ x => x
      obtain ⟨f, hf, _⟩ := I6.ns
      have hCo : C ∉ (objs1 ++ [(D, isD prog w qs)]).map (·.1) := fun q => by
        obtain ⟨p, hp, e⟩ := List.mem_map.mp q
        exact (I6.led p hp).2.1 e
      have I7 := hleave I6
      exact ⟨f, hf, fun h'' hs => fin D qs objs1 _ hI (I7.ign (fun b o hb e => (hs.2 b hb).trans e) hCo hCL hCg rfl rfl rfl)⟩
  exact codeAny_compStart_dict (loop _ HC) (W.self 0 I4 (loop _ HC))

theorem dcompG {kx vx iter target : Expr} {ifs : List Expr} {scope : Scope} {pos : Pos} {cl : List (Str × Addr)} {Q : Value → Shared → Prop} (HE : EnvIs env L names cs) (hcl : closL cs scope.names [] = some cl)
    (h : wpAny (model prog w) A (eval iter env) (fun xv s₁ => wpAny (model prog w) A (pyIter xv) (fun it s₂ => wpAny (model prog w) A newDict (fun acc s₃ =>
      wpAny (model prog w) A (newFunctionEnv scope env.globals cl [] env.qual none .none (some env)) (fun cenv s₄ =>
        codeAny (model prog w) A (.compStart (.DictComp kx vx [⟨target, iter, ifs, 0⟩] scope pos) 0 it acc { cenv with scope := relabel scope env }) (compPost (model prog w) A E none Q acc cenv.locals) s₄) E s₃) E s₂) E s₁) E s)
    (hs : ∀ x, foldedSetIterable iter env x = pure x := by intro _; rfl) (hk : scope.kind = .function := by rfl) (hn : (scope.names.all fun x => x.2 != .local || scope.names.lookup x.1 == some .local) = true := by rfl) :
    wpAny (model prog w) A (eval (.DictComp kx vx [⟨target, iter, ifs, 0⟩] scope pos) env) Q E s := by
  rw [arm_eval_DictComp]
  refine wpAny_comprehension_free (use := none) rfl hs (closure_eq HE hcl) hk (fun y hy e => ?_) h
  have := List.all_eq_true.mp hn y hy
  rw [e] at this
  simpa using this
theorem lcomp2 {elt i1 t1 : Expr} {g2 : Comprehension} {scope : Scope} {pos : Pos} {cl : List (Str × Addr)} {Q : Value → Shared → Prop} (HE : EnvIs env L names cs) (hcl : closL cs scope.names [] = some cl)
    (h : wpAny (model prog w) A (eval i1 env) (fun xv s₁ => wpAny (model prog w) A (pyIter xv) (fun it s₂ => wpAny (model prog w) A (newList []) (fun acc s₃ =>
      wpAny (model prog w) A (newFunctionEnv scope env.globals cl [] env.qual none .none (some env)) (fun cenv s₄ =>
        codeAny (model prog w) A (.compStart (.ListComp elt [⟨t1, i1, [], 0⟩, g2] scope pos) 0 it acc { cenv with scope := relabel scope env }) (compPost (model prog w) A E none Q acc cenv.locals) s₄) E s₃) E s₂) E s₁) E s)
    (hs : ∀ x, foldedSetIterable i1 env x = pure x := by intro _; rfl) (hk : scope.kind = .function := by rfl) (hn : (scope.names.all fun x => x.2 != .local || scope.names.lookup x.1 == some .local) = true := by rfl) :
    wpAny (model prog w) A (eval (.ListComp elt [⟨t1, i1, [], 0⟩, g2] scope pos) env) Q E s := by
  rw [eval_ListComp]
  refine wpAny_comprehension_free (use := none) rfl hs (closure_eq HE hcl) hk (fun y hy e => ?_) h
  have := List.all_eq_true.mp hn y hy
  rw [e] at this
  simpa using this

/-- [y for x in .. for y in (.., ..)] -/
theorem compN {x y : Str} {px py pe : Pos} {i1 i2 : Expr} {scope : Scope} {pos : Pos} {cl : List (Str × Addr)} {Q : Value → Shared → Prop}
    {it : Addr} {src : List (Addr × OP)} {n : Nat} {P : Nat → VP} {J : Nat → List (Addr × OP)} (hh : A.handled = none) (W : It prog w A it src n P J) (HE : EnvIs env L names cs) (F : Nat → List Int)
    (hsrc : ∀ p ∈ src, p ∈ objs) (hn : n ≤ 50) (hF : ∀ k, (F k).length ≤ 10) (I : St g G O L m (objs ++ J 0) s)
    (inner : ∀ k g' C cenv s', EnvIs cenv C (relN scope.names names) cl → k < n → St g' G O C [(x, P k)] objs s' → ∀ E',
      wpAny (model prog w) A (eval i2 cenv) (fun v s₂ => ∃ T, v = .ref T ∧ St g' G O C [(x, P k)] (objs ++ [(T, isT ((F k).map isI))]) s₂) E' s')
    (fin : ∀ a s', St g G O L m (objs ++ [(a, isLI ((List.range n).flatMap F))]) s' → Q (.ref a) s')
    (hs2 : ∀ (env : Env) (v : Value), foldedSetIterable i2 env v = pure v := by intro _ _; rfl)
    (hcell : (scope.names.all fun y => y.2 != .cell) = true := by rfl) (hk : scope.kind = .function := by rfl) (hx : (relN scope.names names).lookup x = some .local := by rfl) (hy : (relN scope.names names).lookup y = some .local := by rfl)
    (hd : (y == ("__debug__" : Str)) = false := by rfl) :
    wpAny (model prog w) A (newList []) (fun acc s₃ => wpAny (model prog w) A (newFunctionEnv scope env.globals cl [] env.qual none .none (some env)) (fun cenv s₄ =>
      codeAny (model prog w) A (.compStart (.ListComp (.Name y pe) [⟨.Name x px, i1, [], 0⟩, ⟨.Name y py, i2, [], 0⟩] scope pos) 0 (.ref it) acc { cenv with scope := relabel scope env }) (compPost (model prog w) A E none Q acc cenv.locals) s₄) E s₃) E s := by
  refine newL (ps := []) I .nil (fun D s3 I3 => ?_) (by simp)
  have I3' : St g G O L m ((objs ++ [(D, isLI [])]) ++ J 0) s3 := I3.perm (by
    rw [List.append_assoc, List.append_assoc]
    exact List.Perm.append_left _ (List.perm_append_comm ..))
  clear I3
  refine wpAny_newFunctionEnv (fun y hy => by simpa using List.all_eq_true.mp hcell y hy) (fun y hy => (nomatch hy)) (fun h' hns hsb => ?_) hk
  have hkeep : ∀ b o, s3.heap.get? b = some o → h'.get? b = some o := fun b o e => (hsb.2 b (Nat.ne_of_lt (Heap.lt_size e))).trans (Heap.get?_push_of_some _ e)
  generalize hC : s3.heap.objs.size = C at *
  have I4 : St (under s3 ((objs ++ [(D, isLI [])]) ++ J 0)) G O C [] ((objs ++ [(D, isLI [])]) ++ J 0) { s3 with heap := h', toks := s3.toks + ([] : List (Str × Value)).length } :=
    I3'.enter hns (fun x P hx => by cases hx) hkeep (Nat.le_of_eq hC) rfl rfl
  have hleave : ∀ {L' : Addr} {m' : List (Str × VP)} {objs' : List (Addr × OP)} {s' : Shared}, St (under s3 ((objs ++ [(D, isLI [])]) ++ J 0)) G O L' m' objs' s' → St g G O L m objs' s' := fun I' => I3'.leave I'
  have hCL : C ≠ L := by
    obtain ⟨f, hf, _⟩ := I3'.ns
    exact Nat.ne_of_gt (hC ▸ hf.lt)
  have hCg : g.get? C = none := by
    cases q : g.get? C with
    | none => rfl
    | some o => exact absurd (Heap.lt_size (I3'.keep _ _ q)) (by rw [hC]; exact Nat.lt_irrefl _)
  generalize hg1 : under s3 ((objs ++ [(D, isLI [])]) ++ J 0) = g1 at *
  generalize hs4 : ({ s3 with heap := h', toks := s3.toks + ([] : List (Str × Value)).length } : Shared) = s4 at *
  have HC : EnvIs { (newEnv scope C env.globals cl env.qual none .none (some env) builtinsNs) with scope := relabel scope env } C (relN scope.names names) cl :=
    ⟨hk, relN_eq HE, rfl, HE.globals, HE.builtins, rfl⟩
  have loop : ∀ cenv, EnvIs cenv C (relN scope.names names) cl → codeAny (model prog w) A (.compLoop (.ListComp (.Name y pe) [⟨.Name x px, i1, [], 0⟩, ⟨.Name y py, i2, [], 0⟩] scope pos) 0 (.ref it) (.ref D) cenv) (compPost (model prog w) A E none Q (.ref D) C) s4 := by
    intro cenv HC
    refine loop_out (I := fun k' s => ∃ k m', k' = n - k ∧ k ≤ n ∧ St g1 G O C m' ((objs ++ [(D, isLI ((List.range k).flatMap F))]) ++ J k) s) ?_ n ⟨0, [], rfl, Nat.zero_le _, I4⟩ (hs := hs2 cenv)
    rintro k' s5 ⟨k, m1, rfl, hkn, I5⟩ E' E''
    by_cases hlt : k < n
    · refine W.next k hlt (fun p hp => List.mem_append_left _ (hsrc p hp)) I5 fun v s6 hv I6 => ?_
      refine wpAny_assign_Name (sto HC I6 hv (fun s7 I7 => ?_) hx)
      rw [List.append_assoc] at I7
      obtain ⟨g2, I8, hg2, back⟩ := I7.out
      have I9 := I8.loc (m' := [(x, P k)]) ⟨⟨P k, by simp [List.lookup_cons], fun _ x => x⟩, trivial⟩
      refine wpAny_mono (inner k g2 C cenv s7 HC hlt I9 _) (fun tv s8 ⟨T, htv, I10⟩ => ?_) fun _ _ x => x
      subst htv
      have I11 := back _ _ _ I10
      have hacc : ((List.range k).flatMap F).length ≤ 10 * k := by
        have : ∀ k, ((List.range k).flatMap F).length ≤ 10 * k := by
          intro k
          induction k with
          | zero => simp
          | succ k ih =>
            rw [List.range_succ, List.flatMap_append, List.length_append]
            have := hF k
            simp only [List.flatMap_cons, List.flatMap_nil, List.append_nil]; omega
        exact this k
      have hkk := hF k
      generalize hac : (List.range k).flatMap F = ac at I11 hacc
      have hac2 : (List.range (k + 1)).flatMap F = ac ++ F k := by rw [List.range_succ, List.flatMap_append, hac]; simp
      generalize hfk : F k = fk at *
      refine iterT (l := T) (ps := fk.map isI) I11 (i := objs.length) (by rw [List.append_assoc, List.getElem?_append_right (Nat.le_refl _)]; simp) ?_
      intro it2 s9 I12
      have I13 : St g1 G O C [(x, P k)] (((objs ++ [(T, isT (fk.map isI))]) ++ ([(D, isLI (ac ++ fk.take 0))] ++ J (k + 1))) ++ [(it2, isTit T 0)]) s9 := by
        rw [show ac ++ fk.take 0 = ac by simp]; exact I12
      clear I5 I6 I7 I8 I9 I10 I11 I12
      have W2 : It prog w A it2 [(T, isT (fk.map isI))] (fk.map isI).length (fun k v => ∀ P, (fk.map isI)[k]? = some P → P v) (fun k => [(it2, isTit T k)]) := It.tuple hh it2 T (fk.map isI)
      have inL : codeAny (model prog w) A (.compLoop (.ListComp (.Name y pe) [⟨.Name x px, i1, [], 0⟩, ⟨.Name y py, i2, [], 0⟩] scope pos) 1 (.ref it2) (.ref D) cenv)
          (fun r s₅ => match r with | .ok _ => ∃ m, m < n - k ∧ ∃ k m', m = n - k ∧ k ≤ n ∧ St g1 G O C m' ((objs ++ [(D, isLI ((List.range k).flatMap F))]) ++ J k) s₅ | .error e => E'' e s₅) s9 := by
        refine loop_in (I := fun j' s => ∃ j m', j' = (fk.map isI).length - j ∧ j ≤ (fk.map isI).length ∧ St g1 G O C m' (((objs ++ [(T, isT (fk.map isI))]) ++ ([(D, isLI (ac ++ fk.take j))] ++ J (k + 1))) ++ [(it2, isTit T j)]) s) ?_ _ ⟨0, _, rfl, Nat.zero_le _, I13⟩
        rintro j' s10 ⟨j, m2, rfl, hj, I14⟩ E3
        by_cases hjl : j < (fk.map isI).length
        · have hjl' : j < fk.length := by simpa using hjl
          refine W2.next j hjl (fun p hp => by rw [List.mem_singleton.mp hp]; exact List.mem_append_left _ (List.mem_append_right _ (.head _))) I14 fun v s11 hv I15 => ?_
          refine wpAny_assign_Name (sto HC I15 (P := isI (fk.getD j 0)) (hv _ (isLI_get hjl')) (fun s12 I16 => ?_) hy)
          refine ld HC I16 (P := isI (fk.getD j 0)) (by simp [List.lookup_cons]) (fun v2 hv2 => ?_) hy hd
          obtain ⟨t2, rfl⟩ := hv2
          refine appLI I16 (i := objs.length + 1) (l := D) (xs := ac ++ fk.take j) ?_ (fun s13 I17 => ?_) (by simp; omega)
          · rw [List.append_assoc, List.append_assoc, List.getElem?_append_right (by omega)]; simp
          · have etk : fk.take (j + 1) = fk.take j ++ [fk.getD j 0] := by rw [List.take_add_one]; simp [hjl']
            refine ⟨_, ?_, j + 1, _, rfl, hjl, I17.cast ?_⟩
            · omega
            · rw [etk, ← List.append_assoc ac, List.append_assoc, List.append_assoc, List.append_assoc, List.append_assoc, List.set_append_right _ _ (by omega), show objs.length + 1 - objs.length = 1 by omega]
              show objs ++ ((T, isT (fk.map isI)) :: (D, isLI (ac ++ (fk.take j ++ [fk.getD j 0]))) :: (J (k + 1) ++ [(it2, isTit T (j + 1))])) = _
              simp only [List.append_assoc, List.cons_append, List.nil_append]
        · obtain rfl : j = (fk.map isI).length := by omega
          refine wpAny_mono (W2.done (Q := fun r s₁ => r = none ∧ ∃ m, m < n - k ∧ ∃ k m', m = n - k ∧ k ≤ n ∧ St g1 G O C m' ((objs ++ [(D, isLI ((List.range k).flatMap F))]) ++ J k) s₁) (fun p hp => by rw [List.mem_singleton.mp hp]; exact List.mem_append_left _ (List.mem_append_right _ (.head _))) I14 fun s11 I15 => ⟨rfl, n - (k + 1), by omega, k + 1, m2, rfl, hlt, ?_⟩) (fun r s6 ⟨hr, hq⟩ => by subst hr; exact hq) fun _ _ x => x
          rw [hac2]
          rw [show fk.take (fk.map isI).length = fk by simp] at I15
          refine (I15.subO (objs' := objs ++ ([(D, isLI (ac ++ fk))] ++ J (k + 1))) (List.Sublist.append_right (List.sublist_append_left ..) _)).cast ?_
          rw [List.append_assoc]
      exact start1 inL (W2.self 0 I13 inL)
    · obtain rfl : k = n := by omega
      refine wpAny_mono (W.done (Q := fun r s₁ => r = none ∧ compPost (model prog w) A E none Q (.ref D) C (.ok .next) s₁) (fun p hp => List.mem_append_left _ (hsrc p hp)) I5 fun s6 I6 => ⟨rfl, ?_⟩) (fun r s6 ⟨hr, hq⟩ => by subst hr; exact hq) fun _ _ x => x
      obtain ⟨f, hf, _⟩ := I6.ns
      have hCo : C ∉ (objs ++ [(D, isLI ((List.range k).flatMap F))]).map (·.1) := fun q => by
        obtain ⟨p, hp, e⟩ := List.mem_map.mp q
        exact (I6.led p hp).2.1 e
      have I7 := hleave I6
      exact ⟨f, hf, fun h'' hs => fin D _ (I7.ign (fun b o hb e => (hs.2 b hb).trans e) hCo hCL hCg rfl rfl rfl)⟩
  exact codeAny_compStart_list (loop _ HC) (W.self 0 I4 (loop _ HC))
end
end Mine
end
-- MP6
section
namespace Mine
theorem free16_spec (taken : List Int) : ∀ (fuel : Nat) (p : Int), 0 ≤ p → p < 16 → ∃ j : Nat, j ≤ fuel ∧ free16 taken p fuel = (p + j) % 16 ∧ ∀ i : Nat, i < j → (p + i) % 16 ∈ taken
  | 0, p, h0, h1 => ⟨0, Nat.le_refl _, by show p = _; omega, fun i hi => by omega⟩
  | f + 1, p, h0, h1 => by
    show ∃ j : Nat, j ≤ f + 1 ∧ (if p ∈ taken then free16 taken ((p + 1).fmod 16) f else p) = (p + j) % 16 ∧ _
    by_cases hp : p ∈ taken
    · rw [if_pos hp, fmod16]
      obtain ⟨j, h2, h3, h4⟩ := free16_spec taken f ((p + 1) % 16) (by omega) (by omega)
      refine ⟨j + 1, by omega, by rw [h3]; omega, fun i hi => ?_⟩
      cases i with
      | zero => rw [show (p + ((0 : Nat) : Int)) % 16 = p by omega]; exact hp
      | succ i =>
        have := h4 i (by omega)
        rwa [show ((p + 1) % 16 + (i : Int)) % 16 = (p + ((i + 1 : Nat) : Int)) % 16 by omega] at this
    · rw [if_neg hp]
      exact ⟨0, by omega, by omega, fun i hi => by omega⟩
theorem free16_new {taken : List Int} (hl : taken.length < 16) {p : Int} (h0 : 0 ≤ p) (h1 : p < 16) : free16 taken p 16 ∉ taken ∧ 0 ≤ free16 taken p 16 ∧ free16 taken p 16 < 16 := by
  have key : ∀ (f : Nat) (p : Int), 0 ≤ p → p < 16 → (∃ j : Nat, j < f ∧ (p + j) % 16 ∉ taken) → free16 taken p f ∉ taken := by
    intro f
    induction f with
    | zero => intro p _ _ ⟨j, hj, _⟩; omega
    | succ f ih =>
      intro p h0 h1 ⟨j, hj, hn⟩
      unfold free16
      by_cases hp : p ∈ taken
      · rw [if_pos hp, fmod16]
        have hj0 : j ≠ 0 := by
          rintro rfl
          rw [show (p + ((0 : Nat) : Int)) % 16 = p by omega] at hn
          exact hn hp
        refine ih _ (by omega) (by omega) ⟨j - 1, by omega, ?_⟩
        rwa [show ((p + 1) % 16 + ((j - 1 : Nat) : Int)) % 16 = (p + j) % 16 by omega]
      · rw [if_neg hp]; exact hp
  refine ⟨key 16 p h0 h1 (free_exists hl p), ?_⟩
  obtain ⟨j, _, e, _⟩ := free16_spec taken 16 p h0 h1
  rw [e]; omega
/-- each one's spot lies behind the wish, seen from the spot that stays free -/
theorem park_pairs : ∀ (ws tk : List Int), (∀ w ∈ ws, 0 ≤ w ∧ w < 16) → (∀ x ∈ tk, 0 ≤ x ∧ x < 16) → tk.Nodup → tk.length + ws.length ≤ 15 → ∃ ss : List Int, takeAll tk ws = tk ++ ss ∧ ss.length = ws.length ∧ (tk ++ ss).Nodup ∧ (∀ x ∈ tk ++ ss, 0 ≤ x ∧ x < 16) ∧
    ∀ f : Int, 0 ≤ f → f < 16 → f ∉ tk ++ ss → ∀ p ∈ ws.zip ss, (p.1 - (f + 1)) % 16 ≤ (p.2 - (f + 1)) % 16
  | [], tk, _, h2, h3, _ => ⟨[], by simp [takeAll], rfl, by simpa using h3, by simpa using h2, fun f _ _ _ p hp => by simp at hp⟩
  | w :: ws, tk, h1, h2, h3, h4 => by
    have hw := h1 w (.head _)
    simp only [List.length_cons] at h4
    obtain ⟨n1, n2, n3⟩ := free16_new (taken := tk) (by omega) hw.1 hw.2
    obtain ⟨ss, e1, e2, e3, e4, e5⟩ := park_pairs ws (tk ++ [free16 tk w 16]) (fun x hx => h1 x (.tail _ hx)) (fun x hx => by
      rcases List.mem_append.mp hx with q | q
      · exact h2 x q
      · rw [List.mem_singleton.mp q]; exact ⟨n2, n3⟩) (List.nodup_append.mpr ⟨h3, by simp, fun a ha b hb e => by rw [List.mem_singleton.mp hb] at e; subst e; exact n1 ha⟩) (by simp; omega)
    rw [List.append_assoc] at e1 e3 e4 e5
    refine ⟨free16 tk w 16 :: ss, e1, by simp [e2], e3, e4, fun f f0 f1 hf p hp => ?_⟩
    rw [List.zip_cons_cons] at hp
    rcases List.mem_cons.mp hp with rfl | hp
    · obtain ⟨j, _, ej, hj⟩ := free16_spec tk 16 w hw.1 hw.2
      show (w - (f + 1)) % 16 ≤ (free16 tk w 16 - (f + 1)) % 16
      have hft : f ∉ tk := fun q => hf (List.mem_append_left _ q)
      have hfs : free16 tk w 16 ≠ f := fun q => hf (List.mem_append_right _ (q ▸ .head _))
      rw [ej] at hfs ⊢
      have hi : ¬ ((f - w) % 16) < (j : Int) := fun q => by
        have := hj ((f - w) % 16).toNat (by omega)
        rw [show (w + (((f - w) % 16).toNat : Int)) % 16 = f by omega] at this
        exact hft this
      have hi2 : (f - w) % 16 ≠ (j : Int) := fun q => hfs (by rw [← q]; omega)
      have hlt : (j : Int) < (f - w) % 16 := by omega
      clear hi hi2 hfs hj ej
      omega
    · exact e5 f f0 f1 hf p hp
/-- seen from the turn, each stretch has enough wishes -/
theorem park {ws : List Int} (hl : ws.length = 15) (hr : ∀ w ∈ ws, 0 ≤ w ∧ w < 16) : 0 ≤ turnOf ws ∧ turnOf ws < 16 ∧ ∀ t : Nat, t ≤ 15 → t ≤ (ws.filter fun w => decide ((w - turnOf ws).fmod 16 < t)).length := by
  obtain ⟨ss, e1, e2, e3, e4, e5⟩ := park_pairs ws [] hr (fun x hx => nomatch hx) .nil (by simp; omega)
  rw [List.nil_append] at e1 e3 e4 e5
  have hne := frees_ne hl
  obtain ⟨f, r, hf⟩ : ∃ f r, frees ws = f :: r := by
    cases q : frees ws with
    | nil => exact absurd q hne
    | cons f r => exact ⟨f, r, rfl⟩
  have hfm : f ∈ frees ws := by rw [hf]; exact .head _
  unfold frees at hfm
  rw [List.mem_filter, mem_spots, e1] at hfm
  have hfs : f ∉ ss := by simpa using hfm.2
  have hturn : turnOf ws = (f + 1) % 16 := by unfold turnOf; rw [hf, fmod16]; rfl
  refine ⟨by rw [hturn]; omega, by rw [hturn]; omega, fun t ht => ?_⟩
  have hall : ∀ x, 0 ≤ x → x < 16 → x ≠ f → x ∈ ss := fun x h0 h1 hx => Classical.byContradiction fun q => by
    have nd : (f :: x :: ss).Nodup := List.nodup_cons.mpr ⟨fun z => by
      rcases List.mem_cons.mp z with z | z
      · exact hx z.symm
      · exact hfs z, List.nodup_cons.mpr ⟨q, e3⟩⟩
    have := nodup_sub_len nd (k := spots) fun y hy => by
      rcases List.mem_cons.mp hy with rfl | hy
      · exact mem_spots.mpr hfm.1
      · rcases List.mem_cons.mp hy with rfl | hy
        · exact mem_spots.mpr ⟨h0, h1⟩
        · exact mem_spots.mpr (e4 y hy)
    simp [spots] at this
    omega
  have h1 : t ≤ (ss.filter fun s => decide ((s - (f + 1)) % 16 < t)).length := by
    have nd : ((List.range t).map fun p : Nat => (f + 1 + p) % 16).Nodup := by
      refine List.pairwise_map.mpr (List.Pairwise.imp_of_mem ?_ (List.nodup_range (n := t)))
      intro a b ha hb ne e
      have ha := List.mem_range.mp ha
      have hb := List.mem_range.mp hb
      omega
    have := nodup_sub_len nd (k := ss.filter fun s => decide ((s - (f + 1)) % 16 < t)) fun x hx => by
      obtain ⟨p, hp, rfl⟩ := List.mem_map.mp hx
      have hp := List.mem_range.mp hp
      refine List.mem_filter.mpr ⟨hall _ (by omega) (by omega) (by omega), ?_⟩
      simp; omega
    simpa using this
  have h2 : (ss.filter fun s => decide ((s - (f + 1)) % 16 < t)).length ≤ (ws.filter fun w => decide ((w - turnOf ws).fmod 16 < t)).length := by
    have key : ∀ (ws ss : List Int), ss.length = ws.length → (∀ p ∈ ws.zip ss, (p.1 - (f + 1)) % 16 ≤ (p.2 - (f + 1)) % 16) →
        (ss.filter fun s => decide ((s - (f + 1)) % 16 < t)).length ≤ (ws.filter fun w => decide ((w - (f + 1) % 16).fmod 16 < t)).length := by
      intro ws
      induction ws with
      | nil => intro ss hl _; rw [List.length_eq_zero_iff.mp hl]; exact Nat.le_refl _
      | cons w ws ih =>
        intro ss hl hp
        cases ss with
        | nil => simp at hl
        | cons s ss =>
          have h0 := hp (w, s) (by rw [List.zip_cons_cons]; exact .head _)
          have ih := ih ss (by simpa using hl) fun p q => hp p (by rw [List.zip_cons_cons]; exact .tail _ q)
          dsimp only at h0
          rw [List.filter_cons, List.filter_cons]
          by_cases c : (s - (f + 1)) % 16 < t
          · have c2 : (w - (f + 1) % 16).fmod 16 < t := by rw [fmod16]; omega
            rw [if_pos (by simpa using c), if_pos (by simpa using c2)]
            simp only [List.length_cons]; omega
          · rw [if_neg (by simpa using c)]
            split
            · simp only [List.length_cons]; omega
            · exact ih
    rw [hturn]
    exact key ws ss e2 (e5 f hfm.1.1 hfm.1.2 hfs)
  omega
end Mine
end
-- MP7
section
namespace Mine
theorem filt_lt (ps : List (Int × Int)) (turn : Int) (n : Nat) : (ps.filter fun p => decide ((p.2 - turn).fmod 16 < ((n + 1 : Nat) : Int))).length = (ps.filter fun p => decide ((p.2 - turn).fmod 16 < n)).length + (ps.filter fun p => decide ((p.2 - turn).fmod 16 = n)).length := by
  induction ps with
  | nil => rfl
  | cons p ps ih =>
    rw [List.filter_cons, List.filter_cons, List.filter_cons]
    by_cases h1 : (p.2 - turn).fmod 16 < n
    · have h2 : ¬ (p.2 - turn).fmod 16 = n := by omega
      have h3 : (p.2 - turn).fmod 16 < ((n + 1 : Nat) : Int) := by omega
      rw [decide_eq_true h1, decide_eq_false h2, decide_eq_true h3, if_pos rfl, if_pos rfl, if_neg Bool.false_ne_true]
      simp only [List.length_cons]; omega
    · by_cases h2 : (p.2 - turn).fmod 16 = n
      · have h3 : (p.2 - turn).fmod 16 < ((n + 1 : Nat) : Int) := by omega
        rw [decide_eq_false h1, decide_eq_true h2, decide_eq_true h3, if_pos rfl, if_pos rfl, if_neg Bool.false_ne_true]
        simp only [List.length_cons]; omega
      · have h3 : ¬ (p.2 - turn).fmod 16 < ((n + 1 : Nat) : Int) := by omega
        rw [decide_eq_false h1, decide_eq_false h2, decide_eq_false h3, if_neg Bool.false_ne_true, if_neg Bool.false_ne_true, if_neg Bool.false_ne_true]
        exact ih
theorem catC_len {gs ws : List Int} (hl : gs.length = ws.length) (turn : Int) : ∀ n : Nat, (catC (callsOf gs ws turn) n).length = (ws.filter fun w => decide ((w - turn).fmod 16 < n)).length := by
  have h1 : ∀ n : Nat, (catC (callsOf gs ws turn) n).length = ((gs.zip ws).filter fun p => decide ((p.2 - turn).fmod 16 < n)).length := by
    intro n
    induction n with
    | zero =>
      have : ((gs.zip ws).filter fun p => decide ((p.2 - turn).fmod 16 < ((0 : Nat) : Int))) = [] := by
        apply List.filter_eq_nil_iff.mpr
        intro p _
        obtain ⟨j, _, e⟩ := slot16 p.2 turn
        simp [e]
      rw [this]; rfl
    | succ n ih =>
      rw [filt_lt, ← ih]
      show (catC _ n ++ callsOf gs ws turn n).length = _
      rw [List.length_append]
      unfold callsOf
      rw [List.length_map]
  intro n
  rw [h1]
  have h2 : ∀ (gs ws : List Int), gs.length = ws.length → ((gs.zip ws).filter fun p => decide ((p.2 - turn).fmod 16 < n)).length = (ws.filter fun w => decide ((w - turn).fmod 16 < n)).length := by
    intro gs
    induction gs with
    | nil =>
      intro ws h
      cases ws with
      | nil => rfl
      | cons w ws => simp at h
    | cons g gs ih =>
      intro ws h
      cases ws with
      | nil => simp at h
      | cons w ws =>
        rw [List.zip_cons_cons, List.filter_cons, List.filter_cons]
        have := ih ws (by simpa using h)
        by_cases c : (w - turn).fmod 16 < n
        · rw [if_pos (by simpa using c), if_pos (by simpa using c)]; simp [this]
        · rw [if_neg (by simpa using c), if_neg (by simpa using c)]; exact this
  exact h2 gs ws hl
theorem run_full {C : Nat → List Int} (hN : ∀ t, t ≤ 15 → t ≤ (catC C t).length) (h16 : (catC C 16).length = 15) : ∀ (f t : Nat) (S : List Int), S.length + t = 1 + (catC C t).length → t ≤ 16 → 17 - t ≤ f → (runW C f t S).length = 16 - t
  | 0, t, S, h, ht, hf => by omega
  | f + 1, t, S, h, ht, hf => by
    cases S with
    | nil =>
      simp at h
      have : t = 16 := by
        by_cases q : t ≤ 15
        · have := hN t q; omega
        · omega
      subst this
      rfl
    | cons x r =>
      rw [runW_cons, List.length_cons]
      have ht16 : t < 16 := by
        by_cases q : t = 16
        · subst q; rw [h16] at h; simp at h
        · omega
      have := run_full hN h16 f (t + 1) (srt (r ++ C t)) (by
        rw [srt_length, List.length_append, catC, List.length_append]
        simp only [List.length_cons] at h
        omega) (by omega) (by omega)
      rw [this]; omega
theorem run_short {C : Nat → List Int} {T : Nat} (hT : (catC C T).length < T) : ∀ (f t : Nat) (S : List Int), S.length + t = 1 + (catC C t).length → t ≤ T → (runW C f t S).length ≤ T - t
  | 0, t, S, _, _ => by simp [runW]
  | f + 1, t, S, h, ht => by
    cases S with
    | nil => simp [runW]
    | cons x r =>
      rw [runW_cons, List.length_cons]
      have hne : t ≠ T := by
        rintro rfl
        simp at h; omega
      have := run_short hT f (t + 1) (srt (r ++ C t)) (by
        rw [srt_length, List.length_append, catC, List.length_append]
        simp only [List.length_cons] at h
        omega) (by omega)
      omega
/-- with the turn, all come off -/
theorem turn_full {gs ws : List Int} (hlg : gs.length = 15) (hlw : ws.length = 15) (hr : ∀ w ∈ ws, 0 ≤ w ∧ w < 16) (head : Int) : (runW (callsOf gs ws (turnOf ws)) 17 0 [head]).length = 16 := by
  have hp := (park hlw hr).2.2
  refine run_full (fun t ht => ?_) ?_ 17 0 [head] rfl (by omega) (by omega)
  · rw [catC_len (hlg.trans hlw.symm)]; exact hp t ht
  · rw [(catC_perm (hlg.trans hlw.symm) _).length_eq, hlg]
/-- with another turn, fewer -/
theorem turn_other {gs ws : List Int} (hlg : gs.length = 15) (hlw : ws.length = 15) (hr : ∀ w ∈ ws, 0 ≤ w ∧ w < 16) (head : Int) {d : Int} (h1 : 1 ≤ d) (h2 : d ≤ 15) :
    1 ≤ (runW (callsOf gs ws (turnOf ws + d)) 17 0 [head]).length ∧ (runW (callsOf gs ws (turnOf ws + d)) 17 0 [head]).length ≤ 15 := by
  obtain ⟨p1, p2, hp⟩ := park hlw hr
  refine ⟨by rw [runW_cons]; simp, ?_⟩
  have hT : (catC (callsOf gs ws (turnOf ws + d)) (16 - d.toNat)).length < 16 - d.toNat := by
    rw [catC_len (hlg.trans hlw.symm)]
    have hd := hp d.toNat (by omega)
    have hsum : ∀ l : List Int, (l.filter fun w => decide ((w - (turnOf ws + d)).fmod 16 < ((16 - d.toNat : Nat) : Int))).length + (l.filter fun w => decide ((w - turnOf ws).fmod 16 < (d.toNat : Int))).length = l.length := by
      intro l
      induction l with
      | nil => rfl
      | cons w l ih =>
        rw [List.filter_cons, List.filter_cons]
        have e1 : (w - (turnOf ws + d)).fmod 16 = (w - (turnOf ws + d)) % 16 := fmod16 _
        have e2 : (w - turnOf ws).fmod 16 = (w - turnOf ws) % 16 := fmod16 _
        by_cases c : (w - turnOf ws).fmod 16 < (d.toNat : Int)
        · have c2 : ¬ (w - (turnOf ws + d)).fmod 16 < ((16 - d.toNat : Nat) : Int) := by rw [e1]; rw [e2] at c; omega
          rw [if_neg (by simpa using c2), if_pos (by simpa using c)]
          simp only [List.length_cons]; omega
        · have c2 : (w - (turnOf ws + d)).fmod 16 < ((16 - d.toNat : Nat) : Int) := by rw [e1]; rw [e2] at c; omega
          rw [if_pos (by simpa using c2), if_neg (by simpa using c)]
          simp only [List.length_cons]; omega
    have := hsum ws
    omega
  have := run_short hT 17 0 [head] rfl (by omega)
  omega
end Mine
end
-- MP8
section
namespace Mine
/-- those called from t on, k steps -/
noncomputable def catF (C : Nat → List Int) : Nat → Nat → List Int
  | _, 0 => []
  | t, k + 1 => C t ++ catF C (t + 1) k
theorem catC_catF (C : Nat → List Int) (t k : Nat) : catC C (t + k) = catC C t ++ catF C t k := by
  induction k generalizing t with
  | zero => show catC C t = _; simp [catF]
  | succ k ih =>
    rw [show t + (k + 1) = (t + 1) + k by omega, ih, catC, List.append_assoc]; rfl
theorem catF_zero (C : Nat → List Int) (k : Nat) : catF C 0 k = catC C k := by
  have := catC_catF C 0 k
  rw [Nat.zero_add] at this
  rw [this]; rfl
noncomputable def heads (W : List (List Int)) : List Int := W.map fun S => S.getD 0 0
theorem run_heads (C : Nat → List Int) : ∀ (f t : Nat) (S : List Int), ∃ rem, (heads (runW C f t S) ++ rem).Perm (S ++ catF C t (runW C f t S).length)
  | 0, t, S => ⟨S, by simp [runW, heads, catF]⟩
  | f + 1, t, [] => ⟨[], by simp [runW, heads, catF]⟩
  | f + 1, t, x :: r => by
    obtain ⟨rem, h⟩ := run_heads C f (t + 1) (srt (r ++ C t))
    refine ⟨rem, ?_⟩
    rw [runW_cons, List.length_cons]
    show (x :: (heads (runW C f (t + 1) (srt (r ++ C t))) ++ rem)).Perm (x :: (r ++ (C t ++ catF C (t + 1) _)))
    refine .cons x (h.trans ?_)
    rw [← List.append_assoc]
    exact (srt_perm _).append_right _
theorem run_mem (C : Nat → List Int) : ∀ (f t : Nat) (S : List Int) (i : Nat) (W : List Int), (runW C f t S)[i]? = some W → ∀ y ∈ W, y ∈ S ++ catF C t i
  | 0, t, S, i, W, h, y, hy => by simp [runW] at h
  | f + 1, t, [], i, W, h, y, hy => by simp [runW] at h
  | f + 1, t, x :: r, 0, W, h, y, hy => by
    rw [runW_cons] at h
    simp at h
    subst h
    simpa [catF] using hy
  | f + 1, t, x :: r, i + 1, W, h, y, hy => by
    rw [runW_cons] at h
    have := run_mem C f (t + 1) (srt (r ++ C t)) i W (by simpa using h) y hy
    show y ∈ (x :: r) ++ (C t ++ catF C (t + 1) i)
    rw [List.mem_append, (srt_perm _).mem_iff, List.mem_append] at this
    simp only [List.mem_append, List.mem_cons]
    rcases this with (h | h) | h
    · exact .inl (.inr h)
    · exact .inr (.inl h)
    · exact .inr (.inr h)
theorem run_ne (C : Nat → List Int) : ∀ (f t : Nat) (S : List Int) (i : Nat) (W : List Int), (runW C f t S)[i]? = some W → ∃ x r, W = x :: r
  | 0, t, S, i, W, h => by simp [runW] at h
  | f + 1, t, [], i, W, h => by simp [runW] at h
  | f + 1, t, x :: r, 0, W, h => by
    rw [runW_cons] at h
    simp at h
    exact ⟨x, r, h.symm⟩
  | f + 1, t, x :: r, i + 1, W, h => by
    rw [runW_cons] at h
    exact run_ne C f (t + 1) (srt (r ++ C t)) i W (by simpa using h)
theorem mem_runO (C : Nat → List Int) : ∀ (f t : Nat) (S : List Int) (c x : Int), (c, x) ∈ runO C f t S ↔ ∃ i, (heads (runW C f t S))[i]? = some x ∧ c ∈ C (t + i)
  | 0, t, S, c, x => by simp [runO, runW, heads]
  | f + 1, t, [], c, x => by simp [runO, runW, heads]
  | f + 1, t, y :: r, c, x => by
    rw [runO_cons, runW_cons, List.mem_append, mem_runO C f (t + 1)]
    show _ ↔ ∃ i, (y :: heads (runW C f (t + 1) (srt (r ++ C t))))[i]? = some x ∧ _
    constructor
    · rintro (h | ⟨i, h1, h2⟩)
      · obtain ⟨g, hg, e⟩ := List.mem_map.mp h
        obtain ⟨rfl, rfl⟩ := Prod.mk.inj e
        exact ⟨0, rfl, hg⟩
      · exact ⟨i + 1, h1, by rw [show t + (i + 1) = t + 1 + i by omega]; exact h2⟩
    · rintro ⟨i, h1, h2⟩
      cases i with
      | zero =>
        obtain rfl : y = x := by simpa using h1
        exact .inl (List.mem_map.mpr ⟨c, h2, rfl⟩)
      | succ i => exact .inr ⟨i, by simpa using h1, by rw [show t + 1 + i = t + (i + 1) by omega]; exact h2⟩
theorem runO_keys (C : Nat → List Int) : ∀ (f t : Nat) (S : List Int), (runO C f t S).map (·.1) = catF C t (runW C f t S).length
  | 0, t, S => by simp [runO, runW, catF]
  | f + 1, t, [] => by simp [runO, runW, catF]
  | f + 1, t, x :: r => by
    rw [runO_cons, runW_cons, List.map_append, List.length_cons, runO_keys C f (t + 1), List.map_map]
    show (C t).map (fun g => g) ++ _ = C t ++ _
    rw [List.map_id']
theorem runT_eq (C : Nat → List Int) (ch : Int → List Int) : ∀ (f t : Nat) (S : List Int), (∀ i x, (heads (runW C f t S))[i]? = some x → (ch x).Perm (C (t + i))) → runT ch f S = runW C f t S
  | 0, t, S, _ => rfl
  | f + 1, t, [], _ => rfl
  | f + 1, t, x :: r, h => by
    rw [runT_cons, runW_cons]
    have h0 : (ch x).Perm (C t) := h 0 x (by rw [runW_cons]; rfl)
    rw [srt_congr (h0.append_left r), runT_eq C ch f (t + 1) (srt (r ++ C t)) fun i y hy => by
      have := h (i + 1) y (by rw [runW_cons]; exact hy)
      rwa [show t + (i + 1) = t + 1 + i by omega] at this]

/-- the people but the head -/
noncomputable def guestsOf (head : Int) : List Int := spots.filter fun g => decide (g ≠ head)
theorem guests_nodup (head : Int) : (guestsOf head).Nodup := spots_nodup.sublist List.filter_sublist
theorem mem_guests {head x : Int} : x ∈ guestsOf head ↔ (0 ≤ x ∧ x < 16) ∧ x ≠ head := by
  unfold guestsOf
  rw [List.mem_filter, mem_spots]; simp
theorem guests_len {head : Int} (h : 0 ≤ head ∧ head < 16) : (guestsOf head).length = 15 := by
  have : ∀ k : Fin 16, (guestsOf (k.val : Int)).length = 15 := by decide
  have e := this ⟨head.toNat, by omega⟩
  rwa [show (((⟨head.toNat, by omega⟩ : Fin 16).val : Nat) : Int) = head by show ((head.toNat : Nat) : Int) = head; omega] at e

structure Full (head : Int) (ws : List Int) (C : Nat → List Int) (hd : List Int) : Prop where
  len : (runW C 17 0 [head]).length = 16
  hds : heads (runW C 17 0 [head]) = hd
  nd : hd.Nodup
  hlen : hd.length = 16
  first : hd[0]? = some head
  all : ∀ x, x ∈ hd ↔ 0 ≤ x ∧ x < 16
  cat : (catC C 16).Perm (guestsOf head)
theorem Full.mk' {head : Int} {ws : List Int} (h0 : 0 ≤ head ∧ head < 16) (hlw : ws.length = 15) (hr : ∀ w ∈ ws, 0 ≤ w ∧ w < 16) :
    Full head ws (callsOf (guestsOf head) ws (turnOf ws)) (heads (runW (callsOf (guestsOf head) ws (turnOf ws)) 17 0 [head])) := by
  have hlg := guests_len h0
  have hl := turn_full hlg hlw hr head
  have hcat := catC_perm (hlg.trans hlw.symm) (turnOf ws)
  generalize hC : callsOf (guestsOf head) ws (turnOf ws) = C at *
  obtain ⟨rem, hp⟩ := run_heads C 17 0 [head]
  rw [hl, catF_zero] at hp
  have hhl : (heads (runW C 17 0 [head])).length = 16 := by unfold heads; rw [List.length_map, hl]
  have hrem : rem = [] := by
    have := hp.length_eq
    rw [List.length_append, List.length_append, hhl, hcat.length_eq, hlg] at this
    have h1 : ([head] : List Int).length = 1 := rfl
    exact List.length_eq_zero_iff.mp (by omega)
  subst hrem
  rw [List.append_nil] at hp
  have hp2 : (heads (runW C 17 0 [head])).Perm (head :: guestsOf head) := hp.trans (hcat.append_left [head])
  refine ⟨hl, rfl, hp2.nodup_iff.mpr (List.nodup_cons.mpr ⟨fun q => (mem_guests.mp q).2 rfl, guests_nodup head⟩), hhl, by rw [runW_cons]; rfl, fun x => ?_, hcat⟩
  rw [hp2.mem_iff, List.mem_cons, mem_guests]
  constructor
  · rintro (rfl | h)
    · exact h0
    · exact h.1
  · intro h
    by_cases e : x = head
    · exact .inl e
    · exact .inr ⟨h, e⟩
theorem Full.catnd {head : Int} {ws : List Int} {C : Nat → List Int} {hd : List Int} (F : Full head ws C hd) : (catC C 16).Nodup := F.cat.nodup_iff.mpr (guests_nodup head)
theorem Full.disj {head : Int} {ws : List Int} {C : Nat → List Int} {hd : List Int} (F : Full head ws C hd) {t u : Nat} {c : Int} (ht : t < 16) (hu : u ≤ t) (h1 : c ∈ C t) (h2 : c ∈ catC C u) : False := by
  have nd := F.catnd
  rw [show 16 = (t + 1) + (15 - t) by omega, catC_catF] at nd
  have nd1 := (List.nodup_append.mp nd).1
  rw [catC] at nd1
  obtain ⟨r, hr⟩ := catC_mono (C := C) hu
  exact (List.nodup_append.mp nd1).2.2 c (by rw [hr]; exact List.mem_append_left _ h2) c h1 rfl
theorem Full.inCat {head : Int} {ws : List Int} {C : Nat → List Int} {hd : List Int} (F : Full head ws C hd) {t : Nat} {c : Int} (ht : t < 16) (h : c ∈ C t) : c ∈ catC C 16 := by
  rw [show 16 = t + ((15 - t) + 1) by omega, catC_catF]
  exact List.mem_append_right _ (List.mem_append_left _ h)
theorem Full.memO {head : Int} {ws : List Int} {C : Nat → List Int} {hd : List Int} (F : Full head ws C hd) {c x : Int} : (c, x) ∈ runO C 17 0 [head] ↔ ∃ i, i < 16 ∧ hd[i]? = some x ∧ c ∈ C i := by
  rw [mem_runO, F.hds]
  constructor
  · rintro ⟨i, h1, h2⟩
    rw [Nat.zero_add] at h2
    exact ⟨i, by have := (List.getElem?_eq_some_iff.mp h1).1; rw [F.hlen] at this; exact this, h1, h2⟩
  · rintro ⟨i, _, h1, h2⟩
    exact ⟨i, h1, by rw [Nat.zero_add]; exact h2⟩
theorem Full.keysO {head : Int} {ws : List Int} {C : Nat → List Int} {hd : List Int} (F : Full head ws C hd) : (runO C 17 0 [head]).map (·.1) = catC C 16 := by
  rw [runO_keys, F.len, catF_zero]
theorem idx_of {l : List Int} (hn : l.Nodup) {i : Nat} {x : Int} (h : l[i]? = some x) : l.idxOf x = i := by
  obtain ⟨hi, e⟩ := List.getElem?_eq_some_iff.mp h
  rw [← e]
  exact hn.idxOf_getElem i hi
theorem Full.tree {head : Int} {ws : List Int} {C : Nat → List Int} {hd : List Int} (h0 : 0 ≤ head ∧ head < 16) (F : Full head ws C hd) : TreeOK (runO C 17 0 [head]) head fun x => hd.idxOf x := by
  refine ⟨by rw [F.keysO]; exact F.catnd, fun p hp => ?_, h0, ?_, fun p hp => ?_, fun p hp => ?_, ?_⟩
  · have : p.1 ∈ catC C 16 := by rw [← F.keysO]; exact List.mem_map_of_mem hp
    exact (mem_guests.mp (F.cat.mem_iff.mp this)).1
  · rw [F.keysO, F.cat.mem_iff]
    exact fun q => (mem_guests.mp q).2 rfl
  · obtain ⟨i, hi, h1, h2⟩ := F.memO.mp (show (p.1, p.2) ∈ _ from hp)
    have hm := (F.all p.2).mp (List.mem_of_getElem? h1)
    by_cases e : p.2 = head
    · exact .inl e
    · rw [F.keysO, F.cat.mem_iff]
      exact .inr (mem_guests.mpr ⟨hm, e⟩)
  · obtain ⟨i, hi, h1, h2⟩ := F.memO.mp (show (p.1, p.2) ∈ _ from hp)
    have hg := mem_guests.mp (F.cat.mem_iff.mp (F.inCat hi h2))
    obtain ⟨u, hu⟩ := List.mem_iff_getElem?.mp ((F.all p.1).mpr hg.1)
    show hd.idxOf p.2 < hd.idxOf p.1
    rw [idx_of F.nd h1, idx_of F.nd hu]
    refine Classical.byContradiction fun hlt => ?_
    have hul : u ≤ i := by omega
    have hW : ∃ S, (runW C 17 0 [head])[u]? = some S ∧ S.getD 0 0 = p.1 := by
      rw [← F.hds] at hu
      unfold heads at hu
      rw [List.getElem?_map] at hu
      obtain ⟨S, e1, e2⟩ := Option.map_eq_some_iff.mp hu
      exact ⟨S, e1, e2⟩
    obtain ⟨S, hS, hS2⟩ := hW
    obtain ⟨x, r, rfl⟩ := run_ne C 17 0 [head] u S hS
    have hx : x = p.1 := hS2
    have := run_mem C 17 0 [head] u (x :: r) hS x (.head _)
    rw [catF_zero, hx] at this
    rcases List.mem_append.mp this with q | q
    · exact hg.2 (List.mem_singleton.mp q)
    · exact F.disj hi hul h2 q
  · intro e
    have := F.keysO
    rw [e] at this
    have l := congrArg List.length this
    rw [F.cat.length_eq, guests_len h0] at l
    simp at l
/-- the road from the tree alone is the first road -/
theorem Full.same {head : Int} {ws : List Int} {C : Nat → List Int} {hd : List Int} (h0 : 0 ≤ head ∧ head < 16) (F : Full head ws C hd) : runT (childs (runO C 17 0 [head])) 17 [head] = runW C 17 0 [head] := by
  have T := F.tree h0
  refine runT_eq C _ 17 0 [head] fun i x hx => ?_
  rw [F.hds] at hx
  rw [Nat.zero_add]
  have hi : i < 16 := by have := (List.getElem?_eq_some_iff.mp hx).1; rw [F.hlen] at this; exact this
  have hCnd : (C i).Nodup := by
    have nd := F.catnd
    rw [show 16 = i + ((15 - i) + 1) by omega, catC_catF] at nd
    exact (List.nodup_append.mp (List.nodup_append.mp nd).2.1).1
  refine (List.perm_ext_iff_of_nodup (childs_nodup _ _) hCnd).mpr fun c => ?_
  rw [mem_childs T, F.memO]
  constructor
  · rintro ⟨j, hj, h1, h2⟩
    have : i = j := by rw [← idx_of F.nd hx, ← idx_of F.nd h1]
    subst this; exact h2
  · intro h; exact ⟨i, hi, hx, h⟩
/-- a person's wish is the step of the one over them, and the turn -/
theorem Full.back {head : Int} {ws : List Int} {hd : List Int} (h0 : 0 ≤ head ∧ head < 16) (hlw : ws.length = 15) (hr : ∀ w ∈ ws, 0 ≤ w ∧ w < 16) (F : Full head ws (callsOf (guestsOf head) ws (turnOf ws)) hd) {k : Nat} (hk : k < 15) :
    ∃ (x : Int) (t : Nat), t < 16 ∧ ((guestsOf head).getD k 0, x) ∈ runO (callsOf (guestsOf head) ws (turnOf ws)) 17 0 [head] ∧ hd[t]? = some x ∧ ((t : Int) + turnOf ws).fmod 16 = ws.getD k 0 := by
  have hlg := guests_len h0
  obtain ⟨t, ht, e⟩ := slot16 (ws.getD k 0) (turnOf ws)
  have hkw : k < ws.length := by omega
  have hw := hr (ws.getD k 0) (by simp [hkw])
  obtain ⟨p1, p2, _⟩ := park hlw hr
  have htl : t < hd.length := by rw [F.hlen]; exact ht
  refine ⟨hd[t], t, ht, F.memO.mpr ⟨t, ht, List.getElem?_eq_getElem htl, ?_⟩, List.getElem?_eq_getElem htl, ?_⟩
  · unfold callsOf
    refine List.mem_map.mpr ⟨((guestsOf head).getD k 0, ws.getD k 0), List.mem_filter.mpr ⟨?_, by simpa using e⟩, rfl⟩
    have hkg : k < (guestsOf head).length := by omega
    refine List.mem_iff_getElem?.mpr ⟨k, ?_⟩
    rw [List.getElem?_zip_eq_some]
    exact ⟨by simp [hkg], by simp [hkw]⟩
  · rw [← e, fmod16, fmod16] at *
    omega
end Mine
end
-- MP9
section
open PySem PySem.W
set_option maxRecDepth 100000
namespace Mine
noncomputable def face : List Int := [48, 49, 50, 51, 52, 53, 54, 55, 56, 57, 65, 66, 67, 68, 69, 70]
noncomputable def fc (f : Int) : Int := face.getD f.toNat 0
noncomputable def figF (o : Int) : List Int := [o.fdiv 16, o.fmod 16]
noncomputable def figs (b : Array UInt8) : List Int := (KBw.bInts b).flatMap figF
theorem fc_facts {f : Int} (h0 : 0 ≤ f) (h1 : f < 16) : fc f ∈ face ∧ face.idxOf (fc f) = f.toNat ∧ hv (fc f) = f ∧ hexI (fc f) ∧ 0 ≤ fc f ∧ fc f < 256 := by
  have : ∀ k : Fin 16, fc (k.val : Int) ∈ face ∧ face.idxOf (fc (k.val : Int)) = k.val ∧ hv (fc (k.val : Int)) = k.val ∧ ((48 ≤ fc (k.val : Int) ∧ fc (k.val : Int) ≤ 57) ∨ (65 ≤ fc (k.val : Int) ∧ fc (k.val : Int) ≤ 70)) ∧ 0 ≤ fc (k.val : Int) ∧ fc (k.val : Int) < 256 := by decide
  have e := this ⟨f.toNat, by omega⟩
  have e2 : (((⟨f.toNat, by omega⟩ : Fin 16).val : Nat) : Int) = f := by show ((f.toNat : Nat) : Int) = f; omega
  rw [e2] at e
  exact e
theorem fdiv16 (a : Int) : a.fdiv 16 = a / 16 := Int.fdiv_eq_ediv_of_nonneg a (by decide)
theorem figF_range {o : Int} (h0 : 0 ≤ o) (h1 : o < 256) : ∀ x ∈ figF o, 0 ≤ x ∧ x < 16 := by
  intro x hx
  simp only [figF, List.mem_cons, List.not_mem_nil, or_false] at hx
  rcases hx with rfl | rfl
  · rw [fdiv16]; omega
  · rw [fmod16]; omega
theorem figs_range (b : Array UInt8) : ∀ x ∈ figs b, 0 ≤ x ∧ x < 16 := by
  intro x hx
  obtain ⟨o, ho, hx⟩ := List.mem_flatMap.mp hx
  obtain ⟨h0, h1⟩ := KBw.ints_in ho
  exact figF_range h0 h1 x hx
theorem flat2_len (l : List Int) : (l.flatMap figF).length = 2 * l.length := by
  induction l with
  | nil => rfl
  | cons o r ih => rw [List.flatMap_cons, List.length_append, ih]; simp [figF]; omega
theorem figs_len {b : Array UInt8} (hb : b.size = 8) : (figs b).length = 16 := by
  unfold figs; rw [flat2_len, KBw.ints_length, hb]
theorem up_digit {n : Nat} (h : n < 16) : ((Builtin.Bytes.toUpper (Builtin.Bytes.hexDigit n).toUInt8).toNat : Int) = fc n := by
  have : ∀ k : Fin 16, ((Builtin.Bytes.toUpper (Builtin.Bytes.hexDigit k.val).toUInt8).toNat : Int) = fc k.val := by decide
  exact this ⟨n, h⟩
/-- what b16encode writes: the figures' signs -/
theorem enc_ints (b : Array UInt8) : KBw.bInts (enc16 b) = (figs b).map fc := by
  have key : ∀ l : List UInt8, (((l.flatMap fun c => [Builtin.Bytes.hexDigit (c.toNat / 16), Builtin.Bytes.hexDigit (c.toNat % 16)]).map fun c => c.toUInt8).map Builtin.Bytes.toUpper).map (fun c => (c.toNat : Int)) = ((l.map fun c => (c.toNat : Int)).flatMap figF).map fc := by
    intro l
    induction l with
    | nil => rfl
    | cons c r ih =>
      rw [List.flatMap_cons, List.map_append, List.map_append, List.map_append, ih, List.map_cons (l := r), List.flatMap_cons, List.map_append]
      congr 1
      have h1 : c.toNat / 16 < 16 := by have := c.toNat_lt; omega
      have h2 : c.toNat % 16 < 16 := by omega
      show [((Builtin.Bytes.toUpper (Builtin.Bytes.hexDigit (c.toNat / 16)).toUInt8).toNat : Int), ((Builtin.Bytes.toUpper (Builtin.Bytes.hexDigit (c.toNat % 16)).toUInt8).toNat : Int)] = [fc ((c.toNat : Int).fdiv 16), fc ((c.toNat : Int).fmod 16)]
      rw [up_digit h1, up_digit h2, fdiv16, fmod16]
      rfl
  unfold enc16 KBw.bInts figs KBw.bInts asc
  rw [hexA_eq]
  have := key b.toList
  simpa using this
theorem byteArr_ints (b : Array UInt8) : byteArr (KBw.bInts b) = b := by
  unfold byteArr KBw.bInts
  apply Array.ext'
  rw [List.map_map]
  show (b.toList.map fun c => ((c.toNat : Int)).toNat.toUInt8) = b.toList
  have : ∀ c : UInt8, ((c.toNat : Int)).toNat.toUInt8 = c := fun c => by simp
  simp
theorem ints_byteArr {ns : List Int} (h : ∀ n ∈ ns, 0 ≤ n ∧ n < 256) : KBw.bInts (byteArr ns) = ns := by
  unfold byteArr KBw.bInts
  rw [List.map_map]
  have : ∀ l : List Int, (∀ n ∈ l, 0 ≤ n ∧ n < 256) → l.map ((fun c : UInt8 => (c.toNat : Int)) ∘ fun n : Int => n.toNat.toUInt8) = l := by
    intro l
    induction l with
    | nil => intro _; rfl
    | cons n r ih =>
      intro h
      rw [List.map_cons, ih fun x hx => h x (.tail _ hx)]
      congr 1
      obtain ⟨h0, h1⟩ := h n (.head _)
      show ((n.toNat.toUInt8).toNat : Int) = n
      have : (n.toNat.toUInt8).toNat = n.toNat := by
        rw [Nat.toUInt8, UInt8.toNat_ofNat']
        omega
      omega
  exact this ns h
theorem pair_back {o : Int} (h0 : 0 ≤ o) (h1 : o < 256) : hv (fc (o.fdiv 16)) * 16 + hv (fc (o.fmod 16)) = o := by
  have r := figF_range h0 h1
  have a := r (o.fdiv 16) (by simp [figF])
  have c := r (o.fmod 16) (by simp [figF])
  rw [(fc_facts a.1 a.2).2.2.1, (fc_facts c.1 c.2).2.2.1, fdiv16, fmod16]
  omega
/-- written and read again -/
theorem decode_back {b : Array UInt8} (hb : b.size = 8) : byteArr (pairs ((figs b).map fc) 8) = b := by
  have hin : ∀ o ∈ KBw.bInts b, 0 ≤ o ∧ o < 256 := fun o ho => KBw.ints_in ho
  have hl : (KBw.bInts b).length = 8 := by rw [KBw.ints_length, hb]
  have hp : pairs ((figs b).map fc) 8 = KBw.bInts b := by
    unfold figs
    generalize KBw.bInts b = l at hin hl
    match l, hl with
    | [o0, o1, o2, o3, o4, o5, o6, o7], _ =>
      show [hv (fc (o0.fdiv 16)) * 16 + hv (fc (o0.fmod 16)), hv (fc (o1.fdiv 16)) * 16 + hv (fc (o1.fmod 16)), hv (fc (o2.fdiv 16)) * 16 + hv (fc (o2.fmod 16)), hv (fc (o3.fdiv 16)) * 16 + hv (fc (o3.fmod 16)),
        hv (fc (o4.fdiv 16)) * 16 + hv (fc (o4.fmod 16)), hv (fc (o5.fdiv 16)) * 16 + hv (fc (o5.fmod 16)), hv (fc (o6.fdiv 16)) * 16 + hv (fc (o6.fmod 16)), hv (fc (o7.fdiv 16)) * 16 + hv (fc (o7.fmod 16))] = _
      have q : ∀ o ∈ [o0, o1, o2, o3, o4, o5, o6, o7], hv (fc (o.fdiv 16)) * 16 + hv (fc (o.fmod 16)) = o := fun o ho => pair_back (hin o ho).1 (hin o ho).2
      rw [q o0 (by simp), q o1 (by simp), q o2 (by simp), q o3 (by simp), q o4 (by simp), q o5 (by simp), q o6 (by simp), q o7 (by simp)]
  rw [hp, byteArr_ints]
end Mine
end
-- ML1
section
open PySem PySem.W PyProof.Rows
set_option maxRecDepth 100000
set_option maxHeartbeats 4000000
namespace Mine
section
variable {prog : Program} {w : World} {A : Around} {E : Value → Shared → Prop} {s : Shared}
variable {g : Heap} {G : Array GenState} {O : OsState} {L : Addr} {m : List (Str × VP)} {objs : List (Addr × OP)} {env : Env} {names : List (Str × NameKind)} {cs : List (Str × Addr)}
/-- a def called from the top: no frame under it -/
theorem enter_fnC {f : Addr} {fd : FuncData} {o : Obj} {body : List Stmt} {args : List Value} {bs : List (Str × Value)} {m' : List (Str × VP)} {Q : Value → Shared → Prop}
    (hW : W w s.heap) (hroom : A.depth < recursionLimit)
    (ho : (KF w).lookup f = some o) (hdata : o.data = .func fd) (hbody : fd.body = .stmts body) (hcd : codeIn (KF w) fd.code fd.qualname = true)
    (hbind : bindArgs fd ⟨args, []⟩ = pure bs) (hclo : fd.closure = [])
    (hkind : (bs.all fun y => fd.scope.names.lookup y.1 == some .local || fd.scope.names.lookup y.1 == some .cell) = true)
    (hnd : ((cellsFrom 0 fd.scope.names []).map (·.1)).Nodup)
    (hm : CovF (bindL (fun n => fd.scope.names.lookup n) bs fun _ => none) m')
    (h : ∀ L' s' env, EnvIs env L' fd.scope.names (cellsFrom (L' + 1) fd.scope.names []) → env.frame = some L' → St s.heap s.gens s.os L' m' (cellLed fd.scope.names bs (cellsFrom (L' + 1) fd.scope.names [])) s' → ∀ E',
      wpAny (model prog w) (A.deeper env) (execs body env) (fun fl s₂ => ∃ m₂ objs₂, St s.heap s.gens s.os L' m₂ objs₂ s₂ ∧ Q (flowVal fl) s₂) E' s')
    (hco : fd.scope.isCoroutine = false := by rfl) (hgen : fd.scope.isGenerator = false := by rfl) (hk : fd.scope.kind = .function := by rfl)
    (hgl : fd.globals = mainGlobals := by rfl) (hbl : fd.builtins = builtinsNs := by rfl) :
    wpAny (model prog w) A (call (.ref f) args) Q E s := by
  have hWs : W w s.heap := hW
  refine wpAny_call (codeAny_call_cells hroom (hWs.k _ _ ho) hdata hWs.lim (codeRec_of hWs.k hcd) hbody hbind hclo (kindsX hkind _) (fun s₁ X => ?_) hco hgen hk)
  have hsame := X.toInCall.same
  have hns := X.toInCall.ns
  have hk₀ := X.toInCall.keep
  have hkind2 : (callEnvC fd s.heap.objs.size f).kindOf = fun n => fd.scope.names.lookup n := rfl
  have hloc : (callEnvC fd s.heap.objs.size f).locals = s.heap.objs.size := rfl
  have hcells : (callEnvC fd s.heap.objs.size f).cells = cellsFrom (s.heap.objs.size + 1) fd.scope.names [] := rfl
  rw [hloc, hkind2] at hns
  obtain ⟨h1, tk, hs1⟩ := hsame
  have hfresh : ∀ a, s.heap.objs.size ≤ a → s.heap.get? a = none := fun a ha => by
    cases q : s.heap.get? a with
    | none => rfl
    | some o => exact absurd (Heap.lt_size q) (Nat.not_lt.mpr ha)
  have I' : St s.heap s.gens s.os s.heap.objs.size m' [] s₁ := ⟨⟨_, hns, hm.get⟩, hk₀, hfresh _ (Nat.le_refl _), fun p hp => (nomatch hp), .nil, by rw [hs1], by rw [hs1]⟩
  have hcell := X.cell
  have habove := X.above
  have hapart := X.apart
  rw [hcells, hkind2] at hcell
  rw [hcells] at hapart
  rw [hcells, hloc] at habove
  have hfull : St s.heap s.gens s.os s.heap.objs.size m' ([] ++ cellLed fd.scope.names bs (cellsFrom (s.heap.objs.size + 1) fd.scope.names [])) s₁ := by
    have hfst : (cellLed fd.scope.names bs (cellsFrom (s.heap.objs.size + 1) fd.scope.names [])).map (·.1) = (cellsFrom (s.heap.objs.size + 1) fd.scope.names []).map (·.2) := by
      unfold cellLed; rw [List.map_map]; rfl
    have hlk : ∀ x ∈ cellsFrom (s.heap.objs.size + 1) fd.scope.names [], (cellsFrom (s.heap.objs.size + 1) fd.scope.names []).lookup x.1 = some x.2 := by
      have hnames : ∀ n n' (l : List (Str × NameKind)) (a a' : List (Str × Addr)), a.map (·.1) = a'.map (·.1) → (cellsFrom n l a).map (·.1) = (cellsFrom n' l a').map (·.1) := by
        intro n n' l
        induction l generalizing n n' with
        | nil => intro a a' e; exact e
        | cons y r ih =>
          intro a a' e
          unfold cellsFrom
          split
          · exact ih _ _ _ _ (by simp [e])
          · exact ih _ _ _ _ e
      have nd : ((cellsFrom (s.heap.objs.size + 1) fd.scope.names []).map (·.1)).Nodup := by rw [hnames _ 0 _ [] [] rfl]; exact hnd
      have gen : ∀ (l : List (Str × Addr)), (l.map (·.1)).Nodup → ∀ x ∈ l, l.lookup x.1 = some x.2 := by
        intro l
        induction l with
        | nil => intro _ x hx; cases hx
        | cons y r ih =>
          intro hn x hx
          rw [List.map_cons, List.nodup_cons] at hn
          rcases List.mem_cons.mp hx with rfl | hx
          · rw [List.lookup_cons, beq_self_eq_true]
          · have : (x.1 == y.1) = false := by
              simp only [beq_eq_false_iff_ne, ne_eq]
              intro e
              exact hn.1 (e ▸ List.mem_map_of_mem hx)
            rw [List.lookup_cons, this]
            exact ih hn.2 x hx
      exact gen _ nd
    refine ⟨I'.ns, I'.keep, I'.newL, fun p hp => ?_, ?_, I'.gens, I'.os⟩
    · rcases List.mem_append.mp hp with hp | hp
      · exact I'.led p hp
      · obtain ⟨x, hx, rfl⟩ := List.mem_map.mp hp
        obtain ⟨o, e1, e2⟩ := hcell x.1 x.2 (hlk x hx)
        refine ⟨⟨o, e1, ?_⟩, Nat.ne_of_gt (habove x.1 x.2 hx), ?_⟩
        · cases q : bindC (fun n => fd.scope.names.lookup n) bs (fun _ => none) x.1 with
          | none => rw [q] at e2; exact ⟨_, e2⟩
          | some v => rw [q] at e2; exact ⟨v, e2, rfl⟩
        · exact hfresh _ (Nat.le_of_lt (habove x.1 x.2 hx))
    · rw [List.map_append, hfst]
      refine List.nodup_append.mpr ⟨I'.nd, ?_, fun a ha b hb e => ?_⟩
      · exact List.pairwise_map.mpr hapart
      · exact absurd ha (by simp)
  refine wpAny_mono (h _ _ _ ⟨hk, rfl, rfl, hgl, hbl, rfl⟩ rfl hfull _) (fun fl s₂ ⟨m₂, objs₂, e1, e2⟩ => ?_) fun _ _ x => x
  cases fl <;> exact e2

theorem cBy {M : Model} {x : List UInt8} {k : Nat} {pos : Pos} {Q : Value → Shared → Prop} (I : St g G O L m objs s) (h : ∀ t s', St g G O L m objs s' → Q (.bytes x.toArray t) s') : wpAny M A (eval (.Constant (.bytes x) k pos) env) Q E s :=
  PySem.W.Constant_bytes (h _ _ (I.tk _))
theorem eqB {b c : Array UInt8} {t u : Tok} {Q : Value → Shared → Prop} (h : Q (.bool (decide (b = c))) s) : wpAny (model prog w) A (compareOp .Eq (.bytes b t) (.bytes c u)) Q E s := by
  refine PySem.W.eq_bytes ?_
  have e : (b.toList == c.toList) = decide (b = c) := by
    rw [Bool.eq_iff_iff]
    simp
  rw [e]; exact h
end
end Mine
end
-- ML2
section
open PySem PySem.W PyProof.Rows
set_option maxRecDepth 100000
set_option maxHeartbeats 4000000
namespace Mine

noncomputable def lawS (w : World) : List Stmt := match (KF w).lookup 289 with
  | some o => match o.data with
    | .func fd => match fd.body with
      | .stmts b => b
      | _ => []
    | _ => []
  | none => []
noncomputable abbrev lawN : List (Str × NameKind) := [("script", .local), ("octets", .local), ("face", .cell), ("figures", .local), ("head", .cell), ("wishes", .local), ("guests", .local), ("turn", .cell), ("waits", .local), ("over", .cell), ("other", .local), ("steps", .cell), ("back", .local), ("_law_octets", .globalImplicit), ("list", .globalImplicit), ("b16encode", .globalImplicit), ("range", .globalImplicit), ("_law_turn", .globalImplicit), ("_law_served", .globalImplicit), ("sum", .globalImplicit), ("len", .globalImplicit), ("_law_handed", .globalImplicit), ("enumerate", .globalImplicit), ("b16decode", .globalImplicit), ("bytes", .globalImplicit)]
noncomputable def PostL (g : Heap) (G : Array GenState) (O : OsState) (L : Addr) : Flow → Shared → Prop := fun fl s₂ => ∃ m₂ objs₂, St g G O L m₂ objs₂ s₂ ∧ flowVal fl = .bool true
theorem enc16_size {b : Array UInt8} (hb : b.size = 8) : (enc16 b).size = 16 := by rw [← KBw.ints_length, enc_ints, List.length_map, figs_len hb]
theorem fm_range (ws : List Int) : (List.range ws.length).filterMap (fun i => ws[i]?) = ws := by
  induction ws with
  | nil => rfl
  | cons x r ih => rw [List.length_cons, List.range_succ_eq_map, List.filterMap_cons, List.filterMap_map]; exact congrArg (x :: ·) ih
theorem pick_tail {x : Int} {ws : List Int} (h : ws.length = 15) : pickNums (x :: ws) (some 1) none none = ws := by
  have e : pickNums (x :: ws) (some 1) none none = ((List.range 15).map (· + 1)).filterMap fun i => (x :: ws)[i]? := by
    have hl : (x :: ws).length = 16 := by rw [List.length_cons, h]
    unfold pickNums
    rw [hl]
    exact congrArg (List.filterMap fun i => (x :: ws)[i]?) (show sliceRange _ _ _ = (List.range 15).map (· + 1) by decide +kernel)
  rw [e, List.filterMap_map, ← h]
  exact fm_range ws
theorem figs_split {b : Array UInt8} (hb : b.size = 8) : ∃ hd ws, figs b = hd :: ws ∧ ws.length = 15 ∧ (0 ≤ hd ∧ hd < 16) ∧ ∀ x ∈ ws, 0 ≤ x ∧ x < 16 := by
  have hl := figs_len hb
  have hr := figs_range b
  cases q : figs b with
  | nil => rw [q] at hl; simp at hl
  | cons x r =>
    rw [q] at hl hr
    exact ⟨x, r, rfl, by simpa using hl, hr _ (.head _), fun y hy => hr y (.tail _ hy)⟩
theorem sign_get {b : Array UInt8} (hb : b.size = 8) {k : Nat} (hk : k < 16) : ∃ f, (figs b).getD k 0 = f ∧ (KBw.bInts (enc16 b)).getD k 0 = fc f ∧ (0 ≤ f ∧ f < 16) ∧ (figs b).take (k + 1) = (figs b).take k ++ [f] := by
  have hl := figs_len hb
  have hk' : k < (figs b).length := by omega
  refine ⟨_, rfl, ?_, ?_, ?_⟩
  · rw [enc_ints, List.getD_eq_getElem?_getD, List.getElem?_map, List.getD_eq_getElem?_getD, List.getElem?_eq_getElem hk']; rfl
  · rw [List.getD_eq_getElem?_getD, List.getElem?_eq_getElem hk']
    exact figs_range b _ (List.getElem_mem hk')
  · rw [List.take_add_one, List.getD_eq_getElem?_getD, List.getElem?_eq_getElem hk']; rfl
section
variable {prog : Program} {w : World} {A : Around} {E : Value → Shared → Prop} {s : Shared}
variable {g : Heap} {G : Array GenState} {O : OsState} {L : Addr} {m : List (Str × VP)} {objs : List (Addr × OP)} {env : Env} {names : List (Str × NameKind)} {cs : List (Str × Addr)}
theorem segA {l : Addr} {vs : List Value} {ns : List Int} {c1 c2 c3 c4 c5 : Addr} (I : St g G O L [("script", vref l)] [(c1, isCell0), (c2, isCell0), (c3, isCell0), (c4, isCell0), (c5, isCell0)] s) (hW : W w g) (hroom : A.depth < 800) (hh : A.handled = none) (hun : A.units < 9000)
    (HE : EnvIs env L lawN [("steps", c5), ("over", c4), ("turn", c3), ("head", c2), ("face", c1)]) (hl : g.IsList l vs.toArray) (hi : IntsAre vs ns) (hz : ns.length ≤ 63)
    (next : ∀ (b : Array UInt8) (lf fl : Addr) (t : Tok) s', b.size = 8 → St g G O L [nm "figures" (vref fl), nm "octets" (isV (.bytes b t))] [(c1, isCell (vref lf)), (c2, isCell0), (c3, isCell0), (c4, isCell0), (c5, isCell0), (lf, isLI face), (fl, isLI (figs b))] s' →
      ∀ E', wpAny (model prog w) A (execs ((lawS w).drop 3) env) (PostL g G O L) E' s') :
    wpAny (model prog w) A (execs (lawS w) env) (PostL g G O L) E s := by
  refine wpAny_execs_cons ?_
  refine wpAny_Assign_Name ?_; refine wpAny_Call_NameR ?_; refine ldG (by assumption) (by assumption) (by assumption) (gx_law_octets _) ?_; refine callWith_K (W.k (by assumption)) (by with_unfolding_all rfl) ?_; refine PyProof.Rows.args_cons ?_; refine ldV (by assumption) (by assumption) (by rfl) ?_; refine PyProof.Rows.args_nil ?_; refine ⟨St.inK (by assumption) (by assumption), ?_⟩
  refine octets_call I hW (by omega) hh hl hi hz ?_
  intro b t1 s1 hb I1
  refine sto (P := isV _) (by assumption) (by assumption) rfl (fun _ _ => ?_); refine wpAny_execs_cons ?_; refine wpAny_Assign_Name ?_; refine wpAny_Call_NameR ?_; refine ldB (by assumption) (by assumption) (by assumption) (gx_list _) bx_list ?_; refine PyProof.Rows.callWith_type1 ?_; refine PyProof.Rows.args_cons ?_
  rename St _ _ _ _ _ _ _ => I2
  refine cBy I2 ?_
  intro t3 s3 I3
  refine PyProof.Rows.args_nil ?_
  refine listB hh I3 (by decide) ?_
  intro lf s4 I4
  refine stoC HE I4 rfl (i := 0) rfl (fun _ x => x) (P := vref lf) rfl ?_
  intro s5 I5
  have I6 : St g G O L [nm "octets" (isV (.bytes b t1))] [(c1, isCell (vref lf)), (c2, isCell0), (c3, isCell0), (c4, isCell0), (c5, isCell0), (lf, isLI face)] s5 := (I5.loc (m' := [nm "octets" (isV (.bytes b t1))]) ⟨⟨_, rfl, fun _ x => x⟩, trivial⟩).cast rfl
  clear I I1 I2 I3 I4 I5
  refine wpAny_execs_cons ?_
  refine lcompU HE rfl ?_
  refine wpAny_Call_NameR ?_; refine ldG (by assumption) (by assumption) (by assumption) (gx_b16encode _) ?_; refine callWith_K (W.k (by assumption)) (by with_unfolding_all rfl) ?_; refine PyProof.Rows.args_cons ?_; refine ldV (by assumption) (by assumption) (by rfl) ?_; refine PyProof.Rows.args_nil ?_; refine ⟨St.inK (by assumption) (by assumption), ?_⟩
  rename St _ _ _ _ _ _ _ => I7
  refine b16e_call I7 hW (by omega) hb ?_
  intro t8 s8 I8
  refine iterB I8 ?_
  intro it s9 I9
  have hes := enc16_size hb
  refine compLU (It.bytes hh it (enc16 b) t8) HE (fun k qs objs' => qs = ((figs b).take k).map isI ∧ k ≤ 16 ∧ objs' = [(c1, isCell (vref lf)), (c2, isCell0), (c3, isCell0), (c4, isCell0), (c5, isCell0), (lf, isLI face)]) ⟨rfl, by omega, rfl⟩ (fun k qs objs' h q hq => (nomatch hq))
    (fun k qs objs' h => by obtain ⟨rfl, h2, _⟩ := h; simp; omega) I9 ?turn1 ?fin1
  case turn1 =>
    intro k g2 C cenv s10 qs objs2 hg2 HC hk hI I10 E2
    refine wpAny_tests_nil ?_
    refine ifT (post_gen fun Q1 hQ1 => ?_)
    obtain ⟨rfl, hk16, rfl⟩ := hI
    rw [hes] at hk
    obtain ⟨f, _, he, hf, htk⟩ := sign_get hb hk
    obtain ⟨q1, q2, _⟩ := fc_facts hf.1 hf.2
    have I11 := I10.loc (m' := [nm "sign" (isI (fc f))]) ⟨⟨_, rfl, fun v hv => he ▸ hv⟩, trivial⟩
    clear I10
    refine methodCall_KW ?_
    refine ldCV HC I11 rfl (i := 0) rfl ?_
    with_reducible refine meth_on ?_
    refine idxM I11 (i := 5) rfl (by decide) ?_
    refine ldI (by assumption) (by assumption) (by rfl) (fun _ => ?_)
    rename St _ _ _ _ _ _ _ => I12
    refine ⟨_, _, rfl, q1, I12, ?_⟩
    intro t13 s13 I13
    rw [q2]
    refine hQ1 _ _ ⟨_, _, isI f, ⟨t13, ?_⟩, ⟨?_, by omega, rfl⟩, I13⟩
    · rw [Int.toNat_of_nonneg hf.1]
    · rw [htk, List.map_append]; rfl
  case fin1 =>
    rintro fl qs objs2 s10 ⟨rfl, _, rfl⟩ C I10
    refine wpAny_assign_Name (sto HE I10 (P := vref fl) rfl ?_)
    intro s11 I11
    refine ⟨_, _, I11, ?_⟩
    intro s12 I12
    rw [hes, show (figs b).take 16 = figs b by rw [← figs_len hb, List.take_length]] at I12
    exact next b lf fl t1 s12 hb I12 _
end
end Mine
end
-- ML3
section
open PySem PySem.W PyProof.Rows
set_option maxRecDepth 100000
set_option maxHeartbeats 4000000
namespace Mine

theorem range_flat {l : List Int} (F : Int → List Int) : ∀ n, n ≤ l.length → (List.range n).flatMap (fun k => F (l.getD k 0)) = (l.take n).flatMap F
  | 0, _ => by simp
  | n + 1, h => by
    rw [List.range_succ, List.flatMap_append, range_flat F n (by omega), List.take_add_one, List.flatMap_append]
    have hn : n < l.length := h
    simp [hn]
section
variable {prog : Program} {w : World} {A : Around} {E : Value → Shared → Prop} {s : Shared}
variable {g : Heap} {G : Array GenState} {O : OsState} {L : Addr} {m : List (Str × VP)} {objs : List (Addr × OP)} {env : Env} {names : List (Str × NameKind)} {cs : List (Str × Addr)}
theorem asgCL {x y : Str} {px py pos : Pos} {x1 : Nat} {T c : Addr} {i j : Nat} {P1 P2 : VP} {Q : Unit → Shared → Prop} (hh : A.handled = none) (HE : EnvIs env L names cs) (I : St g G O L m objs s) (hi : objs[i]? = some (T, isT [P1, P2])) (hc : cs.lookup x = some c) (hj : objs[j]? = some (c, isCell0))
    (h : ∀ s', St g G O L ((y, P2) :: m) (objs.set j (c, isCell P1)) s' → Q () s') (hx : names.lookup x = some .cell := by rfl) (hy : names.lookup y = some .local := by rfl) :
    wpAny (model prog w) A (assign (.Tuple [.Name x px, .Name y py] x1 pos) env (.ref T)) Q E s := by
  obtain ⟨v1, v2, hT, p1, p2⟩ := I.tup2 hi
  refine wpAny_assign_Tuple hh hT rfl rfl fun h' hs => ?_
  have I1 : St g G O L m objs { s with heap := h' } := I.kept (fun b o e => hs b o (Nat.ne_of_lt (Heap.lt_size e)) e) rfl rfl
  refine wpAny_assignInOrder_more (wpAny_assign_Name (stoC HE I1 hc hj (fun _ x => x) p1 (fun s2 I2 => ?_) hx))
  refine wpAny_assignInOrder_more (wpAny_assign_Name (sto HE I2 p2 (fun s3 I3 => ?_) hy))
  exact wpAny_pure (h _ I3)
theorem asgLC {x y : Str} {px py pos : Pos} {x1 : Nat} {T c : Addr} {i j : Nat} {P1 P2 : VP} {Q : Unit → Shared → Prop} (hh : A.handled = none) (HE : EnvIs env L names cs) (I : St g G O L m objs s) (hi : objs[i]? = some (T, isT [P1, P2])) (hc : cs.lookup y = some c) (hj : objs[j]? = some (c, isCell0))
    (h : ∀ s', St g G O L ((x, P1) :: m) (objs.set j (c, isCell P2)) s' → Q () s') (hx : names.lookup x = some .local := by rfl) (hy : names.lookup y = some .cell := by rfl) :
    wpAny (model prog w) A (assign (.Tuple [.Name x px, .Name y py] x1 pos) env (.ref T)) Q E s := by
  obtain ⟨v1, v2, hT, p1, p2⟩ := I.tup2 hi
  refine wpAny_assign_Tuple hh hT rfl rfl fun h' hs => ?_
  have I1 : St g G O L m objs { s with heap := h' } := I.kept (fun b o e => hs b o (Nat.ne_of_lt (Heap.lt_size e)) e) rfl rfl
  refine wpAny_assignInOrder_more (wpAny_assign_Name (sto HE I1 p1 (fun s2 I2 => ?_) hx))
  refine wpAny_assignInOrder_more (wpAny_assign_Name (stoC HE I2 hc hj (fun _ x => x) p2 (fun s3 I3 => ?_) hy))
  exact wpAny_pure (h _ I3)
theorem oFdiv16 {a : Int} {t u : Tok} {Q : Value → Shared → Prop} (I : St g G O L m objs s) (h0 : 0 ≤ a) (h1 : a < 256) (h : ∀ t s', St g G O L m objs s' → Q (.int (a.fdiv 16) t) s') : wpAny (model prog w) A (binaryOp .FloorDiv (.int a t) (.int 16 u)) Q E s :=
  floordiv_int (by decide) (h _ _ (I.tk _)) (hp := Or.inl (PyProof.noPylong_small (by omega)))
theorem segB {b : Array UInt8} {lf fl : Addr} {t : Tok} {hd : Int} {ws : List Int} {c1 c2 c3 c4 c5 : Addr} (I : St g G O L [nm "figures" (vref fl), nm "octets" (isV (.bytes b t))] [(c1, isCell (vref lf)), (c2, isCell0), (c3, isCell0), (c4, isCell0), (c5, isCell0), (lf, isLI face), (fl, isLI (figs b))] s)
    (hW : W w g) (hroom : A.depth < 800) (hh : A.handled = none) (hun : A.units < 9000)
    (HE : EnvIs env L lawN [("steps", c5), ("over", c4), ("turn", c3), ("head", c2), ("face", c1)]) (hb : b.size = 8) (hf : figs b = hd :: ws) (hwl : ws.length = 15)
    (next : ∀ (lg lw : Addr) s', St g G O L [nm "guests" (vref lg), nm "wishes" (vref lw), nm "octets" (isV (.bytes b t))] [(c1, isCell (vref lf)), (c2, isCell (isI hd)), (c3, isCell0), (c4, isCell0), (c5, isCell0), (lf, isLI face), (lw, isLI ws), (lg, isLI (guestsOf hd))] s' →
      ∀ E', wpAny (model prog w) A (execs ((lawS w).drop 6) env) (PostL g G O L) E' s') :
    wpAny (model prog w) A (execs ((lawS w).drop 3) env) (PostL g G O L) E s := by
  refine wpAny_execs_cons ?_
  refine wpAny_mono (Q := fun fo s2 => fo = .next ∧ St g G O L [nm "figures" (vref fl), nm "octets" (isV (.bytes b t))] [(c1, isCell (vref lf)), (c2, isCell0), (c3, isCell0), (c4, isCell0), (c5, isCell0), (lf, isLI face), (fl, isLI (figs b))] s2) ?ifA ?ifB fun _ _ x => x
  case ifA =>
    refine wpAny_If ?_
    refine wpAny_isTrue_Compare1 ?_; refine ldV (by assumption) (by assumption) (by rfl) ?_
    refine lcomp2 HE rfl ?_
    refine ldV (by assumption) (by assumption) (by rfl) ?_
    refine iterB I ?_
    intro it s2 I2
    refine compN hh (It.bytes hh it b t) HE (fun k => figF ((KBw.bInts b).getD k 0)) (fun p hp => nomatch hp) (by omega) (fun k => by simp [figF]) I2 ?inn ?fin
    case inn =>
      intro k g2 C cenv s3 HC hk I3 E2
      have ho : 0 ≤ (KBw.bInts b).getD k 0 ∧ (KBw.bInts b).getD k 0 < 256 := KBw.getD_in (ks := KBw.bInts b) (j := k) fun k hk => KBw.ints_in hk
      generalize (KBw.bInts b).getD k 0 = o at I3 ho
      refine PyProof.Rows.Tuple_ ?_; refine PyProof.Rows.args_cons ?_; refine wpAny_BinOp ?_; refine ldI (by assumption) (by assumption) (by rfl) (fun _ => ?_); refine cI (by assumption) (fun _ _ _ => ?_)
      rename St _ _ _ _ _ _ _ => I4
      refine oFdiv16 I4 ho.1 ho.2 ?_
      intro t4 s4 I4'
      refine PyProof.Rows.args_cons ?_; refine wpAny_BinOp ?_; refine ldI (by assumption) (by assumption) (by rfl) (fun _ => ?_); refine cI (by assumption) (fun _ _ _ => ?_); refine oMod (by assumption) (by decide) (fun _ _ _ => ?_); refine PyProof.Rows.args_nil ?_
      rename St _ _ _ _ _ _ _ => I5
      refine newT (ps := (figF o).map isI) I5 (.cons ⟨_, rfl⟩ (.one ⟨_, rfl⟩)) ?_ (by simp [figF])
      intro T s6 I6
      exact ⟨T, rfl, I6⟩
    case fin =>
      intro a s3 I3
      have e : (List.range b.size).flatMap (fun k => figF ((KBw.bInts b).getD k 0)) = figs b := by
        rw [range_flat figF b.size (by rw [KBw.ints_length]; exact Nat.le_refl _), ← KBw.ints_length, List.take_length]; rfl
      rw [e] at I3
      refine tNeLI I3 (i := 6) (j := 7) rfl rfl (by rw [cLine_is]; omega) (fun q => absurd rfl q) (fun _ => ?_)
      refine ifF ?_
      exact wpAny_execs_nil ⟨rfl, I3.cut rfl⟩
  case ifB =>
    rintro fo s2 ⟨rfl, I2⟩
    clear I
    refine wpAny_execs_cons ?_
    refine Assign_Tuple ?_ rfl ((swapped_eq HE).trans rfl)
    refine PyProof.Rows.Tuple_ ?_; refine PyProof.Rows.args_cons ?_; refine Subscript_ ?_; refine ldV (by assumption) (by assumption) (by rfl) ?_; refine cI (by assumption) (fun _ _ _ => ?_)
    rename St _ _ _ _ _ _ _ => I3
    refine subscrI I3 (i := 6) (ps := (figs b).map isI) rfl (by omega) (x := hd) (by rw [hf]; rfl) (fun t3 => ?_)
    refine PyProof.Rows.args_cons ?_; refine wpAny_Subscript_Slice slot_list_getitem.lookup ?_; refine ldV (by assumption) (by assumption) (by rfl) ?_
    refine sliceAt (ns := figs b) (lo := some 1) (hi := none) (st := none) I3 (fun s' I' => let ⟨vs, n, hl, hf⟩ := I'.ints (i := 6) rfl; ⟨vs, isList_of hl, hf⟩) (by rw [figs_len hb]; omega) (by decide) ?_ ?_
    · rw [evalPart_some]
      refine cI (by assumption) (fun _ _ _ => ?_)
      rename St _ _ _ _ _ _ _ => I3
      exact wpAny_pure (wpAny_pure ⟨.int _ _, .none, .none, I3⟩)
    intro lw s4 I4
    rw [hf, pick_tail hwl] at I4
    refine PyProof.Rows.args_nil ?_
    refine newT (ps := [isI hd, vref lw]) I4 (.cons ⟨_, rfl⟩ (.one rfl)) ?_
    intro T s5 I5
    refine asgCL hh HE I5 (i := 8) (j := 1) rfl rfl rfl ?_
    intro s6 I6
    have I7 : St g G O L [nm "wishes" (vref lw), nm "octets" (isV (.bytes b t))] [(c1, isCell (vref lf)), (c2, isCell (isI hd)), (c3, isCell0), (c4, isCell0), (c5, isCell0), (lf, isLI face), (lw, isLI ws)] s6 := by
      refine (I6.loc (m' := [nm "wishes" (vref lw), nm "octets" (isV (.bytes b t))]) ⟨⟨_, rfl, fun _ x => x⟩, ⟨_, rfl, fun _ x => x⟩, trivial⟩).subO ?_
      exact .cons_cons _ (.cons_cons _ (.cons_cons _ (.cons_cons _ (.cons_cons _ (.cons_cons _ (.cons _ (.cons_cons _ (.cons _ (.refl _)))))))))
    clear I2 I3 I4 I5 I6
    refine wpAny_execs_cons ?_
    refine lcompU HE rfl ?_
    refine wpAny_Call_NameR ?_; refine ldB (by assumption) (by assumption) (by assumption) (g_range _) b_range ?_; refine PyProof.Rows.callWith_type1 ?_; refine PyProof.Rows.args_cons ?_; refine cI (by assumption) (fun _ _ _ => ?_); refine PyProof.Rows.args_nil ?_
    rename St _ _ _ _ _ _ _ => I8
    refine range1 I8 ?_
    intro r s9 I9
    refine iterRn 16 I9 (i := 7) rfl (by decide) (by decide) ?_
    intro it s10 I10
    clear I7 I8 I9
    refine compLU (It.range (by exact hh) it 0 1 16) HE (fun k qs objs' => k ≤ 16 ∧ qs = ((spots.take k).filter fun x => decide (x ≠ hd)).map isI ∧ objs' = [(c1, isCell (vref lf)), (c2, isCell (isI hd)), (c3, isCell0), (c4, isCell0), (c5, isCell0), (lf, isLI face), (lw, isLI ws), (r, isRng 0 16 1)])
      ⟨by omega, rfl, rfl⟩ (fun k qs objs' h q hq => nomatch hq)
      (fun k qs objs' h => by
        obtain ⟨h1, rfl, _⟩ := h
        rw [List.length_map]
        have := List.length_filter_le (fun x => decide (x ≠ hd)) (spots.take k)
        rw [List.length_take] at this
        omega) I10 ?turn2 ?fin2
    case turn2 =>
      intro k g2 C cenv s11 qs objs2 hg2 HC hk hI I11 E2
      refine wpAny_tests_one ?_
      refine post_if fun Q1 hQ1 hQ2 => ?_
      obtain ⟨hk16, rfl, rfl⟩ := hI
      have I12 := I11.loc (m' := [nm "guest" (isI k)]) ⟨⟨_, rfl, fun v hv => by rw [show (0 : Int) + (k : Int) * 1 = k by omega] at hv; exact hv⟩, trivial⟩
      clear I11 I10
      refine wpAny_isTrue_Compare1 ?_; refine ldI (by assumption) (by assumption) (by rfl) (fun _ => ?_)
      refine ldCI HC I12 rfl (i := 1) rfl (fun t13 => ?_)
      refine tNe ?_ ?_
      · intro hne
        refine hQ1 _ ?_; refine ldI (by assumption) (by assumption) (by rfl) (fun _ => ?_)
        refine ⟨_, _, isI k, ⟨_, rfl⟩, ⟨hk, ?_, rfl⟩, I12⟩
        rw [spots_take hk, List.filter_append, List.map_append]
        simp [hne]
      · intro he
        refine hQ2 _ ?_
        refine ⟨_, _, ⟨hk, ?_, rfl⟩, I12⟩
        rw [spots_take hk, List.filter_append, List.map_append]
        simp [he]
    case fin2 =>
      rintro lg qs objs2 s11 ⟨_, rfl, rfl⟩ C I11
      refine wpAny_assign_Name (sto HE I11 (P := vref lg) rfl ?_)
      intro s12 I12
      refine ⟨_, _, I12, ?_⟩
      intro s13 I13
      refine next lg lw s13 ?_ _
      refine I13.subO ?_
      exact .cons_cons _ (.cons_cons _ (.cons_cons _ (.cons_cons _ (.cons_cons _ (.cons_cons _ (.cons_cons _ (.cons _ (.refl _))))))))
end
end Mine
end
-- MT
section
open PySem PySem.W PyProof.Rows
set_option maxRecDepth 100000
namespace Mine

section
variable {prog : Program} {w : World} {A : Around} {E : Value → Shared → Prop} {s : Shared}
variable {g : Heap} {G : Array GenState} {O : OsState} {L : Addr} {m : List (Str × VP)} {objs : List (Addr × OP)}

theorem turn_call {i : Nat} {l : Addr} {ws : List Int} {Q : Value → Shared → Prop} (I : St g G O L m objs s) (hW : W w g) (hroom : A.depth < 900) (hh : A.handled = none)
    (hi : objs[i]? = some (l, isLI ws)) (hlen : ws.length = 15) (hr : ∀ x ∈ ws, 0 ≤ x ∧ x < 16)
    (h : ∀ t s', St g G O L m objs s' → Q (.int (turnOf ws) t) s') :
    wpAny (model prog w) A (call (.ref 274) [.ref l]) Q E s := by
  obtain ⟨g1, I1, hg1, back⟩ := I.focus hi
  refine call_fnC (bs := [("wishes", .ref l)]) (m' := [("wishes", isV (.ref l))]) I1 (hW.keeps hg1) (by unfold recursionLimit; omega) rfl rfl rfl rfl rfl rfl rfl (by decide) ⟨⟨_, rfl, rfl⟩, trivial⟩ ?_
  intro g' L' s' env HE hW' I' E'
  refine post_gen fun Q0 hQ0 => ?_
  dsimp only at HE I'
  have I2 : St g' G O L' [("wishes", isV (.ref l))] [(l, isLI ws), (L' + 1, isCell0)] s' := I'
  clear I'
  generalize L' + 1 = c at HE I2
  refine wpAny_execs_cons ?_; refine wpAny_Assign_Name ?_; refine PyProof.Rows.List_ ?_; refine PyProof.Rows.args_nil ?_
  refine newL (ps := []) I2 .nil ?_
  intro tl s3 I3
  refine stoC HE I3 rfl (i := 1) rfl (fun _ x => x) (P := isV (.ref tl)) rfl ?_
  intro s4 I4
  refine wpAny_execs_cons ?_
  refine wpAny_For ?_
  refine ldV (by assumption) (by assumption) (by rfl) ?_
  refine iterL I4 (i := 0) rfl ?_
  intro it s5 I5
  refine forI (It.list (by exact hh) it l (ws.map isI)) HE (fun k m' objs' => m' = [(Str.ofString "wishes", isV (.ref l))] ∧ objs' = [(l, isLI ws), (c, isCell (isV (.ref tl))), (tl, isLI (takeAll [] (ws.take k)))])
    ⟨rfl, rfl⟩ (fun k m' objs' h p hp => by rw [h.2, List.mem_singleton.mp hp]; exact .head _) I5 ?turn ?fin
  case turn =>
    intro k g2 m2 objs2 s6 hg2 hk hI I6 E2
    refine post_gen fun Q1 hQ1 => ?_
    obtain ⟨rfl, rfl⟩ := hI
    have hk' : k < ws.length := by simpa using hk
    have I7 := I6.loc (m' := [("wish", isI (ws.getD k 0)), ("wishes", isV (.ref l))]) ⟨⟨_, rfl, fun v hv => hv _ (isLI_get hk')⟩, ⟨_, rfl, fun _ x => x⟩, trivial⟩
    clear I6
    refine wpAny_execs_cons ?_; refine wpAny_Assign_Name ?_; refine ldI (by assumption) (by assumption) (by rfl) (fun _ => ?_); refine sto (P := isI _) (by assumption) (by assumption) ⟨_, rfl⟩ (fun _ _ => ?_); refine wpAny_execs_cons ?_
    rename St _ _ _ _ _ _ _ => I8
    have hwk : 0 ≤ ws.getD k 0 ∧ ws.getD k 0 < 16 := by
      have := hr (ws.getD k 0) (by simp [hk'])
      exact this
    generalize hx : ws.getD k 0 = x at *
    have htl : (takeAll [] (ws.take k)).length = k := by rw [takeAll_length]; simp; omega
    generalize htk : takeAll [] (ws.take k) = tk at *
    refine wpAny_While ?_
    refine codeAny_mono (R := fun r s9 => r = .ok .next ∧ St g2 G O L' [("spot", isI (free16 tk x 16)), ("wishes", isV (.ref l))] [(l, isLI ws), (c, isCell (isV (.ref tl))), (tl, isLI tk)] s9) ?loop ?aft
    case aft =>
      rintro r s9 ⟨rfl, I9⟩
      refine wpAny_execs_cons ?_; refine exprS (by assumption) ?_; refine methodCall_KW ?_
      refine ldCV HE I9 rfl (i := 1) rfl ?_
      refine meth_of_on (appM I9 (i := 2) rfl ?_)
      refine ldI (by assumption) (by assumption) (by rfl) (fun _ => ?_)
      refine appLI I9 (i := 2) rfl ?_ (by omega)
      intro s10 I10
      refine wpAny_execs_nil (hQ1 _ _ ⟨.inl rfl, _, _, ⟨rfl, rfl⟩, ?_⟩)
      have e : ws.take (k + 1) = ws.take k ++ [x] := by
        rw [List.take_succ, ← hx]; simp [hk']
      rw [e, takeAll_append, htk]
      exact I10.loc ⟨⟨_, rfl, fun _ x => x⟩, trivial⟩
    refine whileQ (I := fun f s => ∃ p, free16 tk p f = free16 tk x 16 ∧ (∃ j : Nat, j < f ∧ (p + j) % 16 ∉ tk) ∧ 0 ≤ p ∧ p < 16 ∧
      St g2 G O L' [("spot", isI p), ("wishes", isV (.ref l))] [(l, isLI ws), (c, isCell (isV (.ref tl))), (tl, isLI tk)] s) ?_ 16
      ⟨x, rfl, free_exists (by omega) x, hwk.1, hwk.2, I8.loc ⟨⟨_, rfl, fun _ x => x⟩, ⟨_, rfl, fun _ x => x⟩, trivial⟩⟩
    intro f s9 hI E1 B hB hBb hBr T1 hT hF
    obtain ⟨p, hp, ⟨j, hj, hjn⟩, hp0, hp1, I9⟩ := hI
    refine wpAny_isTrue_Compare1 ?_; refine ldI (by assumption) (by assumption) (by rfl) (fun _ => ?_)
    refine ldCV HE I9 rfl (i := 1) rfl ?_
    obtain ⟨f', rfl⟩ : ∃ f', f = f' + 1 := ⟨f - 1, by omega⟩
    refine tIn I9 (i := 2) rfl ?_ ?_
    · intro hin
      refine hT _ ?_; refine wpAny_execs_cons ?_; refine wpAny_Assign_Name ?_; refine wpAny_BinOp ?_; refine wpAny_BinOp ?_; refine ldI (by assumption) (by assumption) (by rfl) (fun _ => ?_); refine cI (by assumption) (fun _ _ _ => ?_); refine oAdd (by assumption) (fun _ _ _ => ?_); refine cI (by assumption) (fun _ _ _ => ?_); refine oMod (by assumption) (by decide) (fun _ _ _ => ?_); refine sto (P := isI _) (by assumption) (by assumption) ⟨_, rfl⟩ (fun _ _ => ?_)
      rename St _ _ _ _ _ _ _ => I10
      refine wpAny_execs_nil (hB _ _ (.inl rfl) ?_)
      have hj0 : j ≠ 0 := by
        rintro rfl
        apply hjn
        rw [show (p + ((0 : Nat) : Int)) % 16 = p by omega]; exact hin
      refine ⟨f', by omega, (p + 1).fmod 16, ?_, ⟨j - 1, by omega, ?_⟩, ?_, ?_, I10.loc ⟨⟨_, rfl, fun _ x => x⟩, ⟨_, rfl, fun _ x => x⟩, trivial⟩⟩
      · rw [← hp]; conv => rhs; unfold free16
        rw [if_pos hin]
      · rw [fmod16, show ((p + 1) % 16 + ((j - 1 : Nat) : Int)) % 16 = (p + j) % 16 by omega]; exact hjn
      · rw [fmod16]; omega
      · rw [fmod16]; omega
    · intro hnin
      refine hF _ ?_
      refine wpAny_execs_nil ⟨rfl, ?_⟩
      rw [← hp]; unfold free16
      rw [if_neg hnin]
      exact I9
  case fin =>
    rintro m2 objs2 s6 ⟨rfl, rfl⟩ I6
    rw [show ws.take (ws.map isI).length = ws by simp] at I6
    refine wpAny_execs_cons ?_; refine wpAny_Return_some ?_; refine wpAny_BinOp ?_; refine Subscript_ ?_
    refine lcomp HE rfl ?_
    refine wpAny_Call_NameR ?_; refine ldB (by assumption) (by assumption) (by assumption) (g_range _) b_range ?_; refine PyProof.Rows.callWith_type1 ?_; refine PyProof.Rows.args_cons ?_; refine cI (by assumption) (fun _ _ _ => ?_); refine PyProof.Rows.args_nil ?_
    rename St _ _ _ _ _ _ _ => I7
    refine range1 I7 ?_
    intro r s8 I8
    refine iterRn 16 I8 (i := 3) rfl (by decide) (by decide) ?_
    intro it2 s9 I9
    refine compL (It.range (by exact hh) it2 0 1 16) HE (fun k qs objs' => k ≤ 16 ∧ objs' = [(l, isLI ws), (c, isCell (isV (.ref tl))), (tl, isLI (takeAll [] ws)), (r, isRng 0 16 1)] ∧
      qs = (((spots.take k).filter fun p => p ∉ takeAll [] ws).map (· + 1)).map isI) ⟨by omega, rfl, rfl⟩ (fun k qs objs' h p hp => nomatch hp)
      (fun k qs objs' h => by
        rw [h.2.2, List.length_map, List.length_map]
        refine Nat.le_trans (List.length_filter_le ..) ?_
        rw [List.length_take]; simp [spots]; omega) I9 ?turn2 ?fin2
    case turn2 =>
      intro k g2 C cenv s10 qs objs2 hg2 HC hk hI I10 E2
      refine wpAny_tests_one ?_
      refine post_if fun Q1 hQ1 hQ2 => ?_
      obtain ⟨hk16, rfl, rfl⟩ := hI
      refine wpAny_isTrue_Compare1 ?_; refine ldI (by assumption) (by assumption) (by rfl) (fun _ => ?_)
      refine ldCV HC I10 rfl (i := 1) rfl ?_
      refine tNotIn I10 (i := 2) rfl ?_ ?_
      · intro hin
        refine hQ2 _ ⟨_, _, ⟨hk, rfl, ?_⟩, I10⟩
        rw [spots_take hk, List.filter_append]
        rw [show (0 : Int) + k * 1 = k by omega] at hin
        simp [hin]
      · intro hnin
        refine hQ1 _ (post_gen fun Q3 hQ3 => ?_); refine wpAny_BinOp ?_; refine ldI (by assumption) (by assumption) (by rfl) (fun _ => ?_); refine cI (by assumption) (fun _ _ _ => ?_); refine oAdd (by assumption) (fun _ _ _ => ?_)
        rename St _ _ _ _ _ _ _ => I11
        refine hQ3 _ _ ⟨_, _, isI ((k : Int) + 1), ⟨_, by rw [show (0 : Int) + k * 1 = k by omega]⟩, ⟨hk, rfl, ?_⟩, I11⟩
        rw [spots_take hk, List.filter_append]
        rw [show (0 : Int) + k * 1 = k by omega] at hnin
        simp [hnin]
    case fin2 =>
      rintro a qs objs2 s10 ⟨_, rfl, rfl⟩ I10
      refine cI (by assumption) (fun _ _ _ => ?_)
      rename St _ _ _ _ _ _ _ => I11
      have hne := frees_ne hlen
      have e16 : spots.take 16 = spots := rfl
      rw [e16] at I11
      refine subscrI I11 (i := 4) rfl (by omega) (isLI_get (p := 0) (by rw [List.length_map]; exact List.length_pos_iff.mpr hne)) (fun t12 => ?_)
      refine cI (by assumption) (fun _ _ _ => ?_); refine oMod (by assumption) (by decide) (fun _ _ _ => ?_)
      rename St _ _ _ _ _ _ _ => I12
      refine hQ0 _ _ ⟨_, _, I12, fun J => ?_⟩
      have J2 := back _ _ _ _ J
      rw [set_self hi] at J2
      exact h _ _ (J2.cut rfl)
end
end Mine
end
-- ML4
section
open PySem PySem.W PyProof.Rows
set_option maxRecDepth 100000
set_option maxHeartbeats 4000000
namespace Mine

theorem get_mid {α : Type _} (X Y : List α) (p : α) : (X ++ (p :: Y))[X.length]? = some p := by simp
theorem get_mid2 {α : Type _} (X Y : List α) (p q : α) : (X ++ (p :: q :: Y))[X.length + 1]? = some q := by simp
section
variable {prog : Program} {w : World} {A : Around} {E : Value → Shared → Prop} {s : Shared}
variable {g : Heap} {G : Array GenState} {O : OsState} {L : Addr} {m : List (Str × VP)} {objs : List (Addr × OP)} {env : Env} {names : List (Str × NameKind)} {cs : List (Str × Addr)}
theorem segC {b : Array UInt8} {lf lg lw : Addr} {t : Tok} {hd : Int} {ws : List Int} {c1 c2 c3 c4 c5 : Addr} (I : St g G O L [nm "guests" (vref lg), nm "wishes" (vref lw), nm "octets" (isV (.bytes b t))] [(c1, isCell (vref lf)), (c2, isCell (isI hd)), (c3, isCell0), (c4, isCell0), (c5, isCell0), (lf, isLI face), (lw, isLI ws), (lg, isLI (guestsOf hd))] s)
    (hW : W w g) (hroom : A.depth < 800) (hh : A.handled = none) (hun : A.units < 9000)
    (HE : EnvIs env L lawN [("steps", c5), ("over", c4), ("turn", c3), ("head", c2), ("face", c1)]) (hb : b.size = 8) (h0 : 0 ≤ hd ∧ hd < 16) (hwl : ws.length = 15) (hr : ∀ x ∈ ws, 0 ≤ x ∧ x < 16)
    (next : ∀ (wa ov : Addr) (was : List Addr) s', was.length = (runW (callsOf (guestsOf hd) ws (turnOf ws)) 17 0 [hd]).length → St g G O L [nm "waits" (vref wa), nm "guests" (vref lg), nm "octets" (isV (.bytes b t))]
        ([(c1, isCell (vref lf)), (c2, isCell (isI hd)), (c3, isCell (isI (turnOf ws))), (c4, isCell (vref ov)), (c5, isCell0), (lf, isLI face), (lg, isLI (guestsOf hd)), (wa, isL (was.map vref)), (ov, isD prog w ((runO (callsOf (guestsOf hd) ws (turnOf ws)) 17 0 [hd]).map fun p => (p.1, isI p.2)))] ++ fam was (runW (callsOf (guestsOf hd) ws (turnOf ws)) 17 0 [hd])) s' →
      ∀ E', wpAny (model prog w) A (execs ((lawS w).drop 10) env) (PostL g G O L) E' s') :
    wpAny (model prog w) A (execs ((lawS w).drop 6) env) (PostL g G O L) E s := by
  have hgl := guests_len h0
  have hfull := turn_full hgl hwl hr hd
  refine wpAny_execs_cons ?_
  refine wpAny_Assign_Name ?_; refine wpAny_Call_NameR ?_; refine ldG (by assumption) (by assumption) (by assumption) (gx_law_turn _) ?_; refine callWith_K (W.k (by assumption)) (by with_unfolding_all rfl) ?_; refine PyProof.Rows.args_cons ?_; refine ldV (by assumption) (by assumption) (by rfl) ?_; refine PyProof.Rows.args_nil ?_; refine ⟨St.inK (by assumption) (by assumption), ?_⟩
  refine turn_call I hW (by omega) hh (i := 6) rfl hwl hr ?_
  intro t1 s1 I1
  refine stoC HE I1 rfl (i := 2) rfl (fun _ x => x) (P := isI (turnOf ws)) ⟨_, rfl⟩ ?_
  intro s2 I2
  clear I I1
  have hoth := fun (d : Int) (q1 : 1 ≤ d) (q2 : d ≤ 15) => turn_other hgl hwl hr hd (d := d) q1 q2
  generalize hT : turnOf ws = T at *
  dsimp only [List.set] at I2
  refine wpAny_execs_cons ?_
  refine Assign_Tuple ?_ rfl ((swapped_eq HE).trans rfl)
  refine wpAny_Call_NameR ?_; refine ldG (by assumption) (by assumption) (by assumption) (gx_law_served _) ?_; refine callWith_K (W.k (by assumption)) (by with_unfolding_all rfl) ?_; refine PyProof.Rows.args_cons ?_
  refine ldCI HE I2 rfl (i := 1) rfl (fun t3 => ?_)
  refine PyProof.Rows.args_cons ?_; refine ldV (by assumption) (by assumption) (by rfl) ?_; refine PyProof.Rows.args_cons ?_; refine ldV (by assumption) (by assumption) (by rfl) ?_; refine PyProof.Rows.args_cons ?_
  refine ldCI HE I2 rfl (i := 2) rfl (fun t4 => ?_)
  refine PyProof.Rows.args_nil ?_; refine ⟨St.inK (by assumption) (by assumption), ?_⟩
  refine served_call I2 hW (by omega) hh hun (i := 7) (j := 6) rfl rfl (by decide) hgl hwl (guests_nodup hd) ?_
  intro Tu wa ov was s3 hwas I3
  generalize hR : runW (callsOf (guestsOf hd) ws T) 17 0 [hd] = R at *
  generalize hO : runO (callsOf (guestsOf hd) ws T) 17 0 [hd] = os at *
  refine asgLC hh HE I3 (i := 8) (j := 3) rfl rfl rfl ?_
  intro s4 I4
  have I5 : St g G O L [nm "waits" (vref wa), nm "guests" (vref lg), nm "wishes" (vref lw), nm "octets" (isV (.bytes b t))]
      ([(c1, isCell (vref lf)), (c2, isCell (isI hd)), (c3, isCell (isI T)), (c4, isCell (vref ov)), (c5, isCell0), (lf, isLI face), (lw, isLI ws), (lg, isLI (guestsOf hd)), (wa, isL (was.map vref)), (ov, isD prog w (os.map fun p => (p.1, isI p.2)))] ++ fam was R) s4 := by
    refine I4.subO ?_
    exact .cons_cons _ (.cons_cons _ (.cons_cons _ (.cons_cons _ (.cons_cons _ (.cons_cons _ (.cons_cons _ (.cons_cons _ (.cons _ (.refl _)))))))))
  clear I2 I3 I4
  refine wpAny_execs_cons ?_
  refine wpAny_Assign_Name ?_; refine Subscript_ ?_; refine wpAny_Call_NameR ?_; refine ldG (by assumption) (by assumption) (by assumption) (gx_law_served _) ?_; refine callWith_K (W.k (by assumption)) (by with_unfolding_all rfl) ?_; refine PyProof.Rows.args_cons ?_
  refine ldCI HE I5 rfl (i := 1) rfl (fun t6 => ?_)
  refine PyProof.Rows.args_cons ?_; refine ldV (by assumption) (by assumption) (by rfl) ?_; refine PyProof.Rows.args_cons ?_; refine ldV (by assumption) (by assumption) (by rfl) ?_; refine PyProof.Rows.args_cons ?_; refine wpAny_BinOp ?_; refine wpAny_BinOp ?_
  refine ldCI HE I5 rfl (i := 2) rfl (fun t7 => ?_)
  refine cI (by assumption) (fun _ _ _ => ?_); refine oAdd (by assumption) (fun _ _ _ => ?_); refine wpAny_BinOp ?_; refine wpAny_Call_NameR ?_; refine ldB (by assumption) (by assumption) (by assumption) (gx_sum _) bx_sum ?_; refine PyProof.Rows.callWith_builtin1 ?_; refine PyProof.Rows.args_cons ?_; refine ldV (by assumption) (by assumption) (by rfl) ?_; refine PyProof.Rows.args_nil ?_
  rename St _ _ _ _ _ _ _ => I6
  refine sumB hh I6 (by omega) ?_
  intro x t8 s8 hx I8
  refine cI (by assumption) (fun _ _ _ => ?_); refine oMod (by assumption) (by decide) (fun _ _ _ => ?_); refine oAdd (by assumption) (fun _ _ _ => ?_); refine PyProof.Rows.args_nil ?_; refine ⟨St.inK (by assumption) (by assumption), ?_⟩
  rename St _ _ _ _ _ _ _ => I9
  have hm0 : 0 ≤ x.fmod 15 := Int.fmod_nonneg_of_pos x (by decide)
  have hm1 : x.fmod 15 < 15 := Int.fmod_lt_of_pos x (by decide)
  have hot := hoth (1 + x.fmod 15) (by omega) (by omega)
  rw [← Int.add_assoc] at hot
  generalize hT2 : T + 1 + x.fmod 15 = T2 at *
  refine served_call I9 hW (by omega) hh hun (i := 7) (j := 6) rfl rfl (by decide) hgl hwl (guests_nodup hd) ?_
  intro Tu2 wa2 ov2 was2 s10 hwas2 I10
  generalize hR2 : runW (callsOf (guestsOf hd) ws T2) 17 0 [hd] = R2 at *
  generalize hO2 : runO (callsOf (guestsOf hd) ws T2) 17 0 [hd] = os2 at *
  refine cI (by assumption) (fun _ _ _ => ?_)
  rename St _ _ _ _ _ _ _ => I11
  obtain ⟨v1, v2, hTu, p1, p2⟩ := I11.tup2 (get_mid _ _ _)
  subst p1
  refine tail_any (IsTup.typeIs hTu) slot_tuple_getitem.lookup (getItem_tuple hTu (by decide) (by decide) rfl rfl ?_) rfl
  refine sto (P := isV _) (by assumption) (by assumption) rfl (fun _ _ => ?_); refine wpAny_execs_cons ?_
  rename St _ _ _ _ _ _ _ => I12
  clear I5 I6 I8 I9 I10 I11
  refine wpAny_mono (Q := fun fo s2 => fo = .next ∧ St g G O L [nm "waits" (vref wa), nm "guests" (vref lg), nm "octets" (isV (.bytes b t))]
        ([(c1, isCell (vref lf)), (c2, isCell (isI hd)), (c3, isCell (isI T)), (c4, isCell (vref ov)), (c5, isCell0), (lf, isLI face), (lg, isLI (guestsOf hd)), (wa, isL (was.map vref)), (ov, isD prog w (os.map fun p => (p.1, isI p.2)))] ++ fam was R) s2) ?ifA ?ifB fun _ _ x => x
  case ifA =>
    refine wpAny_If ?_
    refine wpAny_isTrue_BoolOp ?_; refine wpAny_allTrue_Or_cons ?_; refine wpAny_isTrue_Compare1 ?_; refine wpAny_Call_NameR ?_; refine ldB (by assumption) (by assumption) (by assumption) (g_len _) b_len ?_; refine PyProof.Rows.callWith_builtin1 ?_; refine PyProof.Rows.args_cons ?_; refine ldV (by assumption) (by assumption) (by rfl) ?_; refine PyProof.Rows.args_nil ?_
    refine lenL I12 (i := 8) rfl ?_ (by rw [List.length_map]; omega)
    intro t13 s13 I13
    refine cI (by assumption) (fun _ _ _ => ?_)
    refine tNe (fun q => absurd (by rw [List.length_map]; omega) q) (fun _ => ?_)
    refine ifF ?_; refine wpAny_allTrue_Or_cons ?_; refine wpAny_isTrue_Not ?_; refine PyProof.Rows.isTrue_chain ?_; refine cI (by assumption) (fun _ _ _ => ?_)
    refine PyProof.Rows.test_link ?_
    refine wpAny_Call_NameR ?_; refine ldB (by assumption) (by assumption) (by assumption) (g_len _) b_len ?_; refine PyProof.Rows.callWith_builtin1 ?_; refine PyProof.Rows.args_cons ?_; refine ldV (by assumption) (by assumption) (by rfl) ?_; refine PyProof.Rows.args_nil ?_
    rename St _ _ _ _ _ _ _ => I14
    refine lenL I14 (get_mid2 _ _ _ _) ?_ (by rw [List.length_map]; omega)
    intro t15 s15 I15
    rw [List.length_map, hwas2]
    refine tLe (fun _ => ?_) (fun q => absurd (by omega) q)
    refine ifT ?_
    refine PyProof.Rows.test_last ?_
    refine cI (by assumption) (fun _ _ _ => ?_)
    rename St _ _ _ _ _ _ _ => I16
    refine tLe (fun _ => ?_) (fun q => absurd (by omega) q)
    rw [if_neg (show ¬ ((!true) = true) from Bool.false_ne_true)]; refine wpAny_allTrue_Or_nil ?_; refine ifF ?_
    refine wpAny_execs_nil ⟨rfl, ?_⟩
    refine (I16.loc (m' := [nm "waits" (vref wa), nm "guests" (vref lg), nm "octets" (isV (.bytes b t))]) ⟨⟨_, rfl, fun _ x => x⟩, ⟨_, rfl, fun _ x => x⟩, ⟨_, rfl, fun _ x => x⟩, trivial⟩).subO ?_
    refine List.Sublist.trans ?_ (List.sublist_append_left ..)
    exact .cons_cons _ (.cons_cons _ (.cons_cons _ (.cons_cons _ (.cons_cons _ (.cons_cons _ (.cons _ (.refl _)))))))
  case ifB =>
    rintro fo s2 ⟨rfl, I2⟩
    exact next wa ov was s2 hwas I2 _
end
end Mine
end
-- ML5
section
open PySem PySem.W PyProof.Rows
set_option maxRecDepth 100000
set_option maxHeartbeats 4000000
namespace Mine

section
variable {prog : Program} {w : World} {A : Around} {E : Value → Shared → Prop} {s : Shared}
variable {g : Heap} {G : Array GenState} {O : OsState} {L : Addr} {m : List (Str × VP)} {objs : List (Addr × OP)} {env : Env} {names : List (Str × NameKind)} {cs : List (Str × Addr)}
theorem segD {b : Array UInt8} {lf lg wa ov : Addr} {was : List Addr} {t : Tok} {hd : Int} {ws hs : List Int} {c1 c2 c3 c4 c5 : Addr} {T : Int} {R : List (List Int)} {os : List (Int × Int)}
    (hR : runW (callsOf (guestsOf hd) ws T) 17 0 [hd] = R) (hO : runO (callsOf (guestsOf hd) ws T) 17 0 [hd] = os)
    (I : St g G O L [nm "waits" (vref wa), nm "guests" (vref lg), nm "octets" (isV (.bytes b t))]
        ([(c1, isCell (vref lf)), (c2, isCell (isI hd)), (c3, isCell (isI T)), (c4, isCell (vref ov)), (c5, isCell0), (lf, isLI face), (lg, isLI (guestsOf hd)), (wa, isL (was.map vref)), (ov, isD prog w (os.map fun p => (p.1, isI p.2)))] ++ fam was R) s)
    (hW : W w g) (hroom : A.depth < 800) (hh : A.handled = none) (hun : A.units < 9000) (hfr : A.frames = some [env]) (hef : env.frame = some L)
    (HE : EnvIs env L lawN [("steps", c5), ("over", c4), ("turn", c3), ("head", c2), ("face", c1)]) (h0 : 0 ≤ hd ∧ hd < 16) (F : Full hd ws (callsOf (guestsOf hd) ws T) hs) (hwl : was.length = R.length)
    (next : ∀ s', St g G O L [nm "waits" (vref wa), nm "guests" (vref lg), nm "octets" (isV (.bytes b t))]
        ([(c1, isCell (vref lf)), (c2, isCell (isI hd)), (c3, isCell (isI T)), (c4, isCell (vref ov)), (c5, isCell0), (lf, isLI face), (lg, isLI (guestsOf hd)), (wa, isL (was.map vref)), (ov, isD prog w (os.map fun p => (p.1, isI p.2)))] ++ fam was R) s' →
      ∀ E', wpAny (model prog w) A (execs ((lawS w).drop 11) env) (PostL g G O L) E' s') :
    wpAny (model prog w) A (execs ((lawS w).drop 10) env) (PostL g G O L) E s := by
  have hek : env.scope.kind ≠ .module := by rw [HE.kind]; decide
  have hT := F.tree h0
  have hsame := F.same h0
  rw [hO] at hT hsame
  rw [hR] at hsame
  refine wpAny_execs_cons ?_
  refine wpAny_mono (Q := fun fo s2 => fo = .next ∧ St g G O L [nm "waits" (vref wa), nm "guests" (vref lg), nm "octets" (isV (.bytes b t))]
        ([(c1, isCell (vref lf)), (c2, isCell (isI hd)), (c3, isCell (isI T)), (c4, isCell (vref ov)), (c5, isCell0), (lf, isLI face), (lg, isLI (guestsOf hd)), (wa, isL (was.map vref)), (ov, isD prog w (os.map fun p => (p.1, isI p.2)))] ++ fam was R) s2) ?ifA ?ifB fun _ _ x => x
  case ifA =>
    refine wpAny_If ?_
    refine wpAny_isTrue_Compare1 ?_; refine wpAny_Call_NameR ?_; refine ldG (by assumption) (by assumption) (by assumption) (gx_law_handed _) ?_; refine callWith_K (W.k (by assumption)) (by with_unfolding_all rfl) ?_; refine PyProof.Rows.args_cons ?_
    refine ldCV HE I rfl (i := 3) rfl ?_
    refine PyProof.Rows.args_nil ?_; refine ⟨St.inK (by assumption) (by assumption), ?_⟩
    have I2 : St g G O L [nm "waits" (vref wa), nm "guests" (vref lg), nm "octets" (isV (.bytes b t))]
        ((ov, isD prog w (os.map fun p => (p.1, isI p.2))) :: ([(c1, isCell (vref lf)), (c2, isCell (isI hd)), (c3, isCell (isI T)), (c4, isCell (vref ov)), (c5, isCell0), (lf, isLI face), (lg, isLI (guestsOf hd)), (wa, isL (was.map vref))] ++ fam was R)) s :=
      I.perm (List.perm_middle (l₁ := [(c1, isCell (vref lf)), (c2, isCell (isI hd)), (c3, isCell (isI T)), (c4, isCell (vref ov)), (c5, isCell0), (lf, isLI face), (lg, isLI (guestsOf hd)), (wa, isL (was.map vref))]) (l₂ := fam was R)).symm
    refine handed_call I2 hW (by omega) hh hun hfr (fun es ep => ⟨hek, ⟨L, es, ep, hef, last_mem⟩, trivial⟩) hT ?_
    rw [hsame]
    intro wa2 was2 s3 hwl2 I3
    generalize hX : ([(c1, isCell (vref lf)), (c2, isCell (isI hd)), (c3, isCell (isI T)), (c4, isCell (vref ov)), (c5, isCell0), (lf, isLI face), (lg, isLI (guestsOf hd)), (wa, isL (was.map vref))] : List (Addr × OP)) = X at *
    have I4 : St g G O L [nm "waits" (vref wa), nm "guests" (vref lg), nm "octets" (isV (.bytes b t))] ((wa2, isL (was2.map vref)) :: (ov, isD prog w (os.map fun p => (p.1, isI p.2))) :: (X ++ (fam was R ++ fam was2 R))) s3 := I3.perm (by
      refine List.Perm.cons _ (List.Perm.symm ?_)
      refine List.perm_append_comm.trans ?_
      rw [List.cons_append, List.append_assoc])
    clear I3 I2 I
    refine ldV (by assumption) (by assumption) (by rfl) ?_
    refine tNeFam I4 (i := 0) (j := 9) rfl (by rw [← hX]; rfl) (by rw [cLine_is]; omega) hwl2 hwl (fun p hp => .tail _ (.tail _ (List.mem_append_right _ (List.mem_append_right _ hp)))) (fun p hp => .tail _ (.tail _ (List.mem_append_right _ (List.mem_append_left _ hp)))) ?_
    refine ifF ?_
    refine wpAny_execs_nil ⟨rfl, ?_⟩
    have I5 : St g G O L [nm "waits" (vref wa), nm "guests" (vref lg), nm "octets" (isV (.bytes b t))] ((ov, isD prog w (os.map fun p => (p.1, isI p.2))) :: (X ++ fam was R)) s3 := I4.subO (by
      refine .cons _ (.cons_cons _ ?_)
      rw [← List.append_assoc]
      exact List.sublist_append_left ..)
    have I6 := I5.perm (List.perm_middle (l₁ := X) (l₂ := fam was R))
    rw [← hX] at I6
    exact I6
  case ifB =>
    rintro fo s2 ⟨rfl, I2⟩
    exact next s2 I2 _
end
end Mine
end
-- ML6
section
open PySem PySem.W PyProof.Rows
set_option maxRecDepth 100000
set_option maxHeartbeats 4000000
namespace Mine

noncomputable def stepsP (hs : List Int) (k : Nat) : List (Int × VP) := (List.range k).map fun j => (hs.getD j 0, isI ((j : Nat) : Int))
theorem stepsP_succ (hs : List Int) (k : Nat) : stepsP hs (k + 1) = stepsP hs k ++ [(hs.getD k 0, isI ((k : Nat) : Int))] := by unfold stepsP; rw [List.range_succ, List.map_append]; rfl
theorem stepsP_mem {hs : List Int} {t : Nat} {x : Int} (ht : t < 16) (hx : hs[t]? = some x) : (x, isI ((t : Nat) : Int)) ∈ stepsP hs 16 := by
  refine List.mem_map.mpr ⟨t, List.mem_range.mpr ht, ?_⟩
  rw [List.getD_eq_getElem?_getD, hx]; rfl
theorem stepsP_new {hs : List Int} (hn : hs.Nodup) {k : Nat} (hk : k < hs.length) : hs.getD k 0 ∉ (stepsP hs k).map (·.1) := by
  intro q
  obtain ⟨p, hp, e⟩ := List.mem_map.mp q
  obtain ⟨j, hj, rfl⟩ := List.mem_map.mp hp
  have hjk := List.mem_range.mp hj
  have hj2 : j < hs.length := by omega
  simp only [List.getD_eq_getElem?_getD, List.getElem?_eq_getElem hj2, List.getElem?_eq_getElem hk, Option.getD_some] at e
  have h1 := idx_of hn (List.getElem?_eq_getElem hj2)
  have h2 := idx_of hn (List.getElem?_eq_getElem hk)
  rw [e, h2] at h1
  omega
section
variable {prog : Program} {w : World} {A : Around} {E : Value → Shared → Prop} {s : Shared}
variable {g : Heap} {G : Array GenState} {O : OsState} {L : Addr} {m : List (Str × VP)} {objs : List (Addr × OP)} {env : Env} {names : List (Str × NameKind)} {cs : List (Str × Addr)}
theorem segE {b : Array UInt8} {lf lg wa ov : Addr} {was : List Addr} {t : Tok} {hd : Int} {hs : List Int} {c1 c2 c3 c4 c5 : Addr} {T : Int} {R : List (List Int)} {os : List (Int × Int)}
    (I : St g G O L [nm "waits" (vref wa), nm "guests" (vref lg), nm "octets" (isV (.bytes b t))]
        ([(c1, isCell (vref lf)), (c2, isCell (isI hd)), (c3, isCell (isI T)), (c4, isCell (vref ov)), (c5, isCell0), (lf, isLI face), (lg, isLI (guestsOf hd)), (wa, isL (was.map vref)), (ov, isD prog w (os.map fun p => (p.1, isI p.2)))] ++ fam was R) s)
    (hW : W w g) (hroom : A.depth < 800) (hh : A.handled = none) (hun : A.units < 9000)
    (HE : EnvIs env L lawN [("steps", c5), ("over", c4), ("turn", c3), ("head", c2), ("face", c1)]) (hwl : was.length = R.length) (hRl : R.length = 16) (hne : ∀ (i : Nat) (W : List Int), R[i]? = some W → ∃ x r, W = x :: r) (hds : heads R = hs) (hnd : hs.Nodup)
    (next : ∀ sd s', St g G O L [nm "guests" (vref lg), nm "octets" (isV (.bytes b t))]
        [(c1, isCell (vref lf)), (c2, isCell (isI hd)), (c3, isCell (isI T)), (c4, isCell (vref ov)), (c5, isCell (vref sd)), (lf, isLI face), (lg, isLI (guestsOf hd)), (ov, isD prog w (os.map fun p => (p.1, isI p.2))), (sd, isD prog w (stepsP hs 16))] s' →
      ∀ E', wpAny (model prog w) A (execs ((lawS w).drop 12) env) (PostL g G O L) E' s') :
    wpAny (model prog w) A (execs ((lawS w).drop 11) env) (PostL g G O L) E s := by
  have hsl : hs.length = 16 := by rw [← hds]; unfold heads; rw [List.length_map, hRl]
  refine wpAny_execs_cons ?_
  refine wpAny_Assign_Name ?_ (swaps_cell HE rfl)
  refine dcompG HE rfl ?_
  refine wpAny_Call_NameR ?_; refine ldB (by assumption) (by assumption) (by assumption) (gx_enumerate _) bx_enumerate ?_; refine PyProof.Rows.callWith_type1 ?_; refine PyProof.Rows.args_cons ?_; refine ldV (by assumption) (by assumption) (by rfl) ?_; refine PyProof.Rows.args_nil ?_
  refine callEnum I (i := 7) rfl ?_
  intro e it s2 hei I2
  have Z : It2 prog w A e _ _ _ _ _ := It2.enum hh e it wa (was.map vref) hei
  refine Z.self 0 I2 ?_
  refine compD2 hh Z HE (fun k qs objs' => k ≤ 16 ∧ qs = stepsP hs k ∧ objs' = [(c1, isCell (vref lf)), (c2, isCell (isI hd)), (c3, isCell (isI T)), (c4, isCell (vref ov)), (c5, isCell0), (lf, isLI face), (lg, isLI (guestsOf hd)), (wa, isL (was.map vref)), (ov, isD prog w (os.map fun p => (p.1, isI p.2)))] ++ fam was R) ⟨by omega, rfl, rfl⟩
    (fun k qs objs' h p hp => by
      obtain ⟨_, _, rfl⟩ := h
      rw [List.mem_singleton.mp hp]
      exact List.mem_of_getElem? (i := 7) rfl)
    (fun k qs objs' h => by
      obtain ⟨h1, rfl, _⟩ := h
      unfold stepsP; rw [List.length_map, List.length_range]; omega) I2 ?turn1 ?fin1
  case turn1 =>
    rintro k g2 C cenv s3 qs objs2 hg2 HC hk ⟨hk16, rfl, rfl⟩ I3 E2
    have hk2 : k < was.length := by simpa using hk
    have hkR : k < R.length := by omega
    obtain ⟨x, r, hxr⟩ := hne k _ (List.getElem?_eq_getElem hkR)
    have hx : hs.getD k 0 = x := by
      rw [← hds]; unfold heads
      rw [List.getD_eq_getElem?_getD, List.getElem?_map, List.getElem?_eq_getElem hkR, hxr]; rfl
    have I4 := I3.loc (m' := [nm "waiting" (vref was[k]), nm "step" (isI k)]) ⟨⟨_, rfl, fun v hv => hv _ (by rw [List.getElem?_map, List.getElem?_eq_getElem hk2]; rfl)⟩, ⟨_, rfl, fun _ x => x⟩, trivial⟩
    clear I3
    have hget : ([(c1, isCell (vref lf)), (c2, isCell (isI hd)), (c3, isCell (isI T)), (c4, isCell (vref ov)), (c5, isCell0), (lf, isLI face), (lg, isLI (guestsOf hd)), (wa, isL (was.map vref)), (ov, isD prog w (os.map fun p => (p.1, isI p.2)))] ++ fam was R)[k + 9]? = some (was[k], isLI (x :: r)) := by
      show (fam was R)[k]? = _
      rw [fam_get hk2 hkR, hxr]
    refine wpAny_tests_nil ?_
    refine ifT ?_; refine Subscript_ ?_; refine ldV (by assumption) (by assumption) (by rfl) ?_; refine cI (by assumption) (fun _ _ _ => ?_)
    rename St _ _ _ _ _ _ _ => I5
    refine subscrI I5 (i := k + 9) hget (by omega) (x := x) rfl (fun t6 => ?_)
    refine ldI (by assumption) (by assumption) (by rfl) (fun _ => ?_)
    refine ⟨_, _, x, _, isI k, rfl, ⟨_, rfl⟩, ?_, ⟨by omega, ?_, rfl⟩, I5⟩
    · rw [← hx]; exact stepsP_new hnd (by omega)
    · rw [stepsP_succ, hx]
  case fin1 =>
    rintro sd qs objs2 s3 ⟨_, rfl, rfl⟩ I3
    rw [show (was.map vref).length = 16 by rw [List.length_map]; omega] at I3
    refine stoC HE I3 rfl (i := 4) rfl (fun _ x => x) (P := vref sd) rfl ?_
    intro s4 I4
    refine next sd s4 ?_ _
    refine (I4.loc (m' := [nm "guests" (vref lg), nm "octets" (isV (.bytes b t))]) ⟨⟨_, rfl, fun _ x => x⟩, ⟨_, rfl, fun _ x => x⟩, trivial⟩).subO ?_
    show ([(c1, isCell (vref lf)), (c2, isCell (isI hd)), (c3, isCell (isI T)), (c4, isCell (vref ov)), (c5, isCell (vref sd)), (lf, isLI face), (lg, isLI (guestsOf hd)), (ov, isD prog w (os.map fun p => (p.1, isI p.2))), (sd, isD prog w (stepsP hs 16))] : List (Addr × OP)).Sublist
      ((c1, isCell (vref lf)) :: (c2, isCell (isI hd)) :: (c3, isCell (isI T)) :: (c4, isCell (vref ov)) :: (c5, isCell (vref sd)) :: (lf, isLI face) :: (lg, isLI (guestsOf hd)) :: (wa, isL (was.map vref)) :: (ov, isD prog w (os.map fun p => (p.1, isI p.2))) :: (fam was R ++ [(sd, isD prog w (stepsP hs 16))]))
    exact .cons_cons _ (.cons_cons _ (.cons_cons _ (.cons_cons _ (.cons_cons _ (.cons_cons _ (.cons_cons _ (.cons _ (.cons_cons _ (List.sublist_append_right ..)))))))))
end
end Mine
end
-- ML7
section
open PySem PySem.W PyProof.Rows
set_option maxRecDepth 100000
set_option maxHeartbeats 4000000
namespace Mine

section
variable {prog : Program} {w : World} {A : Around} {E : Value → Shared → Prop} {s : Shared}
variable {g : Heap} {G : Array GenState} {O : OsState} {L : Addr} {m : List (Str × VP)} {objs : List (Addr × OP)} {env : Env} {names : List (Str × NameKind)} {cs : List (Str × Addr)}
theorem segF {b : Array UInt8} {lf lg ov sd : Addr} {t : Tok} {hd : Int} {ws hs : List Int} {c1 c2 c3 c4 c5 : Addr} {os : List (Int × Int)} {sp : List (Int × VP)}
    (hb : b.size = 8) (hf : figs b = hd :: ws) (hwl : ws.length = 15) (hgl : (guestsOf hd).length = 15)
    (hback : ∀ k, k < 15 → ∃ (x : Int) (t : Nat), t < 16 ∧ ((guestsOf hd).getD k 0, x) ∈ os ∧ (x, isI ((t : Nat) : Int)) ∈ sp ∧ ((t : Int) + turnOf ws).fmod 16 = ws.getD k 0)
    (I : St g G O L [nm "guests" (vref lg), nm "octets" (isV (.bytes b t))]
        [(c1, isCell (vref lf)), (c2, isCell (isI hd)), (c3, isCell (isI (turnOf ws))), (c4, isCell (vref ov)), (c5, isCell (vref sd)), (lf, isLI face), (lg, isLI (guestsOf hd)), (ov, isD prog w (os.map fun p => (p.1, isI p.2))), (sd, isD prog w sp)] s)
    (hW : W w g) (hroom : A.depth < 800) (hh : A.handled = none) (hun : A.units < 9000)
    (HE : EnvIs env L lawN [("steps", c5), ("over", c4), ("turn", c3), ("head", c2), ("face", c1)]) :
    wpAny (model prog w) A (execs ((lawS w).drop 12) env) (PostL g G O L) E s := by
  refine wpAny_execs_cons ?_
  refine wpAny_Assign_Name ?_; refine wpAny_BinOp ?_; refine PyProof.Rows.List_ ?_; refine PyProof.Rows.args_cons ?_
  refine ldCI HE I rfl (i := 1) rfl (fun t1 => ?_)
  refine PyProof.Rows.args_nil ?_
  refine newL (ps := [isI hd]) I (.one ⟨_, rfl⟩) ?_
  intro hl s2 I2
  refine lcomp HE rfl ?_
  refine ldV (by assumption) (by assumption) (by rfl) ?_
  refine iterL I2 (i := 6) rfl ?_
  intro it s3 I3
  generalize turnOf ws = T at *
  refine compL (It.list hh it lg ((guestsOf hd).map isI)) HE (fun k qs objs' => k ≤ 15 ∧ qs = (ws.take k).map isI ∧ objs' = [(c1, isCell (vref lf)), (c2, isCell (isI hd)), (c3, isCell (isI T)), (c4, isCell (vref ov)), (c5, isCell (vref sd)), (lf, isLI face), (lg, isLI (guestsOf hd)), (ov, isD prog w (os.map fun p => (p.1, isI p.2))), (sd, isD prog w sp), (hl, isLI [hd])]) ⟨by omega, rfl, rfl⟩
    (fun k qs objs' h p hp => by
      obtain ⟨_, _, rfl⟩ := h
      rw [List.mem_singleton.mp hp]
      exact List.mem_of_getElem? (i := 6) rfl)
    (fun k qs objs' h => by
      obtain ⟨h1, rfl, _⟩ := h
      rw [List.length_map, List.length_take]; omega) I3 ?turn1 ?fin1
  case turn1 =>
    intro k g2 C cenv s4 qs objs2 hg2 HC hk hI I4 E2
    refine wpAny_tests_nil ?_
    refine ifT (post_gen fun Q1 hQ1 => ?_)
    obtain ⟨hk16, rfl, rfl⟩ := hI
    have hkg : k < (guestsOf hd).length := by simpa using hk
    have hk15 : k < 15 := by omega
    obtain ⟨x, t5, ht5, q1, q2, q3⟩ := hback k hk15
    have I5 := I4.loc (m' := [nm "guest" (isI ((guestsOf hd).getD k 0))]) ⟨⟨_, rfl, fun v hv => hv _ (isLI_get hkg)⟩, trivial⟩
    clear I4
    generalize (guestsOf hd).getD k 0 = gu at I5 q1
    have htk : ws.take (k + 1) = ws.take k ++ [ws.getD k 0] := by rw [List.take_add_one]; simp [show k < ws.length by omega]
    refine wpAny_BinOp ?_; refine wpAny_BinOp ?_; refine Subscript_ ?_
    refine ldCV HC I5 rfl (i := 4) rfl ?_
    refine Subscript_ ?_
    refine ldCV HC I5 rfl (i := 3) rfl ?_
    refine ldI (by assumption) (by assumption) (by rfl) (fun _ => ?_)
    refine subscrD I5 (i := 7) rfl (P := isI x) (List.mem_map.mpr ⟨_, q1, rfl⟩) ?_
    rintro _ s6 ⟨t6, rfl⟩ I6
    refine subscrD I6 (i := 8) rfl (P := isI t5) q2 ?_
    rintro _ s7 ⟨t7, rfl⟩ I7
    refine ldCI HC I7 rfl (i := 2) rfl (fun t8 => ?_)
    refine oAdd (by assumption) (fun _ _ _ => ?_); refine cI (by assumption) (fun _ _ _ => ?_); refine oMod (by assumption) (by decide) (fun _ _ _ => ?_)
    rename St _ _ _ _ _ _ _ => I8
    refine hQ1 _ _ ⟨_, _, isI (ws.getD k 0), ⟨_, by rw [q3]⟩, ⟨by omega, ?_, rfl⟩, I8⟩
    rw [htk, List.map_append]; rfl
  case fin1 =>
    rintro bl qs objs2 s4 ⟨_, rfl, rfl⟩ I4
    rw [show ((guestsOf hd).map isI).length = 15 by rw [List.length_map, hgl], show ws.take 15 = ws by rw [← hwl, List.take_length]] at I4
    refine addLL I4 (i := 9) (j := 10) (ns := [hd]) (ms := ws) rfl rfl (by simp; omega) ?_
    intro ba s5 I5
    refine sto (P := isV _) (by assumption) (by assumption) rfl (fun _ _ => ?_); refine wpAny_execs_cons ?_; refine wpAny_Return_some ?_; refine wpAny_Compare1 ?_; refine wpAny_Call_NameR ?_; refine ldG (by assumption) (by assumption) (by assumption) (gx_b16decode _) ?_; refine callWith_K (W.k (by assumption)) (by with_unfolding_all rfl) ?_; refine PyProof.Rows.args_cons ?_; refine wpAny_Call_NameR ?_; refine ldB (by assumption) (by assumption) (by assumption) (gx_bytes _) bx_bytes ?_; refine PyProof.Rows.callWith_type1 ?_; refine PyProof.Rows.args_cons ?_
    rename St _ _ _ _ _ _ _ => I6
    have I7 := (I6.loc (m' := [nm "octets" (isV (.bytes b t)), nm "back" (vref ba)]) ⟨⟨_, rfl, fun _ x => x⟩, ⟨_, rfl, fun _ x => x⟩, trivial⟩).subO (objs' := [(c1, isCell (vref lf)), (lf, isLI face), (ba, isLI ([hd] ++ ws))])
      (.cons_cons _ (.cons _ (.cons _ (.cons _ (.cons _ (.cons_cons _ (.cons _ (.cons _ (.cons _ (.cons _ (.cons _ (.cons_cons _ (.refl _)))))))))))))
    rw [show [hd] ++ ws = figs b from hf.symm] at I7
    clear I I2 I3 I4 I5 I6
    have hfl := figs_len hb
    have hfr := figs_range b
    refine lcomp HE rfl ?_
    refine ldV (by assumption) (by assumption) (by rfl) ?_
    refine iterL I7 (i := 2) rfl ?_
    intro it2 s8 I8
    refine compL (It.list hh it2 ba ((figs b).map isI)) HE (fun k qs objs' => k ≤ 16 ∧ qs = (((figs b).take k).map fc).map isI ∧ objs' = [(c1, isCell (vref lf)), (lf, isLI face), (ba, isLI (figs b))]) ⟨by omega, rfl, rfl⟩
      (fun k qs objs' h p hp => by
        obtain ⟨_, _, rfl⟩ := h
        rw [List.mem_singleton.mp hp]
        exact List.mem_of_getElem? (i := 2) rfl)
      (fun k qs objs' h => by
        obtain ⟨h1, rfl, _⟩ := h
        rw [List.length_map, List.length_map, List.length_take]; omega) I8 ?turn2 ?fin2
    case turn2 =>
      intro k g2 C cenv s9 qs objs2 hg2 HC hk hI I9 E2
      refine wpAny_tests_nil ?_
      refine ifT (post_gen fun Q1 hQ1 => ?_)
      obtain ⟨hk16, rfl, rfl⟩ := hI
      have hkf : k < (figs b).length := by simpa using hk
      have I10 := I9.loc (m' := [nm "figure" (isI ((figs b).getD k 0))]) ⟨⟨_, rfl, fun v hv => hv _ (isLI_get hkf)⟩, trivial⟩
      clear I9
      have hfk : 0 ≤ (figs b).getD k 0 ∧ (figs b).getD k 0 < 16 := by
        rw [List.getD_eq_getElem?_getD, List.getElem?_eq_getElem hkf]
        exact hfr _ (List.getElem_mem hkf)
      have htk : (figs b).take (k + 1) = (figs b).take k ++ [(figs b).getD k 0] := by rw [List.take_add_one]; simp [hkf]
      generalize (figs b).getD k 0 = f at I10 hfk htk
      refine Subscript_ ?_
      refine ldCV HC I10 rfl (i := 0) rfl ?_
      refine ldI (by assumption) (by assumption) (by rfl) (fun _ => ?_)
      refine subscrI I10 (i := 1) (ps := face.map isI) rfl hfk.1 (x := fc f) (isLI_get (xs := face) (p := f.toNat) (by show f.toNat < 16; omega)) (fun t11 => ?_)
      refine hQ1 _ _ ⟨_, _, isI (fc f), ⟨_, rfl⟩, ⟨by omega, ?_, rfl⟩, I10⟩
      rw [htk, List.map_append, List.map_append]; rfl
    case fin2 =>
      rintro pl qs objs2 s9 ⟨_, rfl, rfl⟩ I9
      rw [show ((figs b).map isI).length = 16 by rw [List.length_map, hfl], show (figs b).take 16 = figs b by rw [← hfl, List.take_length]] at I9
      have hns : ∀ n ∈ (figs b).map fc, 0 ≤ n ∧ n < 256 := fun n hn => by
        obtain ⟨f, hf1, rfl⟩ := List.mem_map.mp hn
        exact (fc_facts (hfr f hf1).1 (hfr f hf1).2).2.2.2.2
      refine PyProof.Rows.args_nil ?_
      refine bytesL hh I9 (i := 3) (ns := (figs b).map fc) rfl hns (by rw [List.length_map]; omega) ?_
      intro t12 s12 I12
      have hbi := ints_byteArr hns
      refine PyProof.Rows.args_nil ?_; refine ⟨St.inK (by assumption) (by assumption), ?_⟩
      refine b16d_call I12 hW (by omega) hh (by rw [← KBw.ints_length, hbi, List.length_map, hfl]) (fun c hc => ?_) ?_
      · rw [hbi] at hc
        obtain ⟨f, hf1, rfl⟩ := List.mem_map.mp hc
        exact (fc_facts (hfr f hf1).1 (hfr f hf1).2).2.2.2.1
      intro t13 s13 I13
      rw [hbi, decode_back hb]
      refine ldV (by assumption) (by assumption) (by rfl) ?_
      refine eqB ?_
      rw [decide_eq_true rfl]
      exact ⟨_, _, I13, rfl⟩
end
end Mine
end
-- ML8
section
open PySem PySem.W PyProof.Rows
set_option maxRecDepth 100000
set_option maxHeartbeats 4000000
namespace Mine

section
variable {prog : Program} {w : World} {A : Around} {E : Value → Shared → Prop} {s : Shared}
theorem law_call {l : Addr} {vs : List Value} {ns : List Int} {Q : Value → Shared → Prop} (hW : W w s.heap) (hroom : A.depth < 500) (hh : A.handled = none) (hun : A.units < 8000) (hfr : A.frames = some []) (hl : s.heap.IsList l vs.toArray) (hi : IntsAre vs ns) (hz : ns.length ≤ 63)
    (h : ∀ s', (∀ b o, s.heap.get? b = some o → s'.heap.get? b = some o) → s'.gens = s.gens → s'.os = s.os → Q (.bool true) s') :
    wpAny (model prog w) A (call (.ref 289) [.ref l]) Q E s := by
  refine enter_fnC (bs := [("script", .ref l)]) (m' := [("script", isV (.ref l))]) hW (by unfold recursionLimit; omega) rfl rfl rfl rfl rfl rfl rfl (by decide) ⟨⟨_, rfl, rfl⟩, trivial⟩ ?_
  intro L' s' env HE hef I' E'
  have hfr' : (A.deeper env).frames = some [env] := by
    show pushEnvs [env] A.frames = _
    rw [hfr]; rfl
  have hroom' : (A.deeper env).depth < 800 := by show A.depth + 1 < 800; omega
  have hh' : (A.deeper env).handled = none := hh
  have hun' : (A.deeper env).units < 9000 := by show _ < 9000; simp only [Around.deeper]; omega
  generalize hA : A.deeper env = A' at *
  have HE' : EnvIs env L' lawN [("steps", L' + 1 + 1 + 1 + 1 + 1), ("over", L' + 1 + 1 + 1 + 1), ("turn", L' + 1 + 1 + 1), ("head", L' + 1 + 1), ("face", L' + 1)] := HE
  have I2 : St s.heap s.gens s.os L' [("script", vref l)] [(L' + 1, isCell0), (L' + 1 + 1, isCell0), (L' + 1 + 1 + 1, isCell0), (L' + 1 + 1 + 1 + 1, isCell0), (L' + 1 + 1 + 1 + 1 + 1, isCell0)] s' := I'.perm (by
    show ([(L' + 1, isCell0), (L' + 1 + 1, isCell0), (L' + 1 + 1 + 1, isCell0), (L' + 1 + 1 + 1 + 1, isCell0), (L' + 1 + 1 + 1 + 1 + 1, isCell0)] : List (Addr × OP)).Perm [(L' + 1 + 1 + 1 + 1 + 1, isCell0), (L' + 1 + 1 + 1 + 1, isCell0), (L' + 1 + 1 + 1, isCell0), (L' + 1 + 1, isCell0), (L' + 1, isCell0)]
    exact (List.reverse_perm _).symm)
  clear HE I'
  generalize L' + 1 = c1 at HE' I2
  generalize c1 + 1 = c2 at HE' I2
  generalize c2 + 1 = c3 at HE' I2
  generalize c3 + 1 = c4 at HE' I2
  generalize c4 + 1 = c5 at HE' I2
  have key : wpAny (model prog w) A' (execs (lawS w) env) (PostL s.heap s.gens s.os L') E' s' := by
    refine segA I2 hW hroom' hh' hun' HE' hl hi hz ?_
    intro b lf fl t s3 hb I3 E3
    obtain ⟨hd, ws, hf, hwl, h0, hr⟩ := figs_split hb
    refine segB I3 hW hroom' hh' hun' HE' hb hf hwl ?_
    intro lg lw s4 I4 E4
    refine segC I4 hW hroom' hh' hun' HE' hb h0 hwl hr ?_
    intro wa ov was s5 hwas I5 E5
    have F := Full.mk' h0 hwl hr
    have hgl := guests_len h0
    refine segD rfl rfl I5 hW hroom' hh' hun' hfr' hef HE' h0 F hwas ?_
    intro s6 I6 E6
    refine segE I6 hW hroom' hh' hun' HE' hwas F.len (fun i W hW => run_ne _ _ _ _ i W hW) F.hds F.nd ?_
    intro sd s7 I7 E7
    refine segF (hs := []) hb hf hwl hgl (fun k hk => ?_) I7 hW hroom' hh' hun' HE'
    obtain ⟨x, t, q1, q2, q3, q4⟩ := F.back h0 hwl hr hk
    exact ⟨x, t, q1, q2, stepsP_mem q1 q3, q4⟩
  refine wpAny_mono key (fun fl s₂ ⟨m₂, objs₂, I3, e⟩ => ⟨m₂, objs₂, I3, ?_⟩) fun _ _ x => x
  rw [e]
  exact h s₂ I3.keep I3.gens I3.os
end
end Mine
end
-- ML9
open PySem PySem.W PyProof.Rows
set_option maxRecDepth 100000
set_option maxHeartbeats 8000000
namespace Mine
theorem gx_law (w : World) : nsIn (KF w) mainGlobals "law" = some (some (.ref 289)) := by rfl
end Mine
open Mine
theorem PySem.Challenge.cw_pa0056_01_holds : PySem.Challenge.rw_pa0056_01.Holds :=
  hd (by
  intro d kwd hdef w s₀ s₁ mg mb G Y a o pm cd doc dV kV ho hdd hcd hD hmg hg args vals as hpre hlay hrd hwl hlo
  rw [defOf_name hdef] at hmg
  have KX : (frag w.params).In s₁.heap := kIn_of Y
  have T := G.T
  have e := hmg.symm.trans (mg_of KX T.g (gx_law w))
  cases e
  obtain ⟨_, ⟨oS, _, _, hS, _⟩, _⟩ := (T.seer (by rfl)).mods
  have hW : Mine.W w s₁.heap := ⟨KX, T.nolimit, ⟨_, T.g⟩, ⟨_, T.b, T.builtins⟩, ⟨_, hS⟩⟩
  clear ho hdd hcd hD hmg Y G KX T hdef
  clear d kwd
  wrow_args hpre hlay hrd hwl hlo
  rename_i ns hs hl0 hL1 hr1 hl2 x4 x3 la vs x0 hL ra wl r0 hI hr hlen htrue
  refine law_call hW (by decide) rfl (by decide) rfl hL hI (by omega) ?_
  intro s' hk hgens hos
  exact ⟨.inl ⟨.bool true, .bool true, [], rfl, fun cls => rfl, .bool _, postW_of (r := PySem.Challenge.rw_pa0056_01.row.toRowW) (X := true) (by rfl) (w_eq_bool (k := true) (l := true) (by simp only [WTm.value]) (by simp only [WTm.value])) rfl, unshared_nil⟩, .of_keep hk, hos, .of_eq (hgens.trans hg)⟩)
