import PyProof.Rows.All
import Wide.All
import OpenK.AllK
import Wide.FinOn
import PySem.Challenge.RW_op0034_01
set_option Elab.async false
set_option maxRecDepth 100000
set_option linter.unusedVariables false
set_option linter.unusedSimpArgs false
set_option linter.unusedSectionVars false
set_option linter.deprecated false
section
open PySem PySem.W PyProof.Rows
set_option maxHeartbeats 8000000
namespace Mine
/- the top of the program, run by the kernel; the objects of the heap behind it that the proofs look at -/
noncomputable abbrev pgmK : Program := Challenge.pw_op0034_01
noncomputable abbrev rowK : OpenRow := Challenge.rw_op0034_01.row
noncomputable def topS : {l : List Stmt // l = pgmK.main.body} := ⟨[_, _, _, _, _, _, _, _, _, _, _, _, _, _, _, _, _, _, _, _], rfl⟩
noncomputable def fnK (s : Stmt) (c : Addr) (m : String) (t : Tok) : Obj := match s with
  | .FunctionDef n ps b _ _ _ sc _ _ _ => { cls := .type "function", data := .func { name := n, qualname := n, params := ps, body := .stmts b, scope := sc, globals := 3, closure := [], defaults := .none, kwdefaults := .none, pyModule := .str (Str.ofString m) t, code := .ref c } }
  | _ => { cls := .none, data := .dict #[] }
noncomputable def nthK : List Stmt → Nat → Stmt
  | [], _ => .Pass ⟨0, 0, 0, 0⟩
  | s :: _, 0 => s
  | _ :: l, n + 1 => nthK l n
noncomputable def fn21 : {o : Obj // o = fnK (nthK topS.1 1) 20 "cpy313.xml.etree.ElementPath" 187} := ⟨{ cls := .type "function", data := .func { name := _, qualname := _, params := ⟨_, _, _, _, _, _, _⟩, body := .stmts _, scope := ⟨_, _, _, _, _⟩, globals := 3, closure := [], defaults := .none, kwdefaults := .none, pyModule := _, code := .ref 20 } }, rfl⟩
noncomputable def fn28 : {o : Obj // o = fnK (nthK topS.1 2) 27 "cpy313.xml.etree.ElementPath" 187} := ⟨{ cls := .type "function", data := .func { name := _, qualname := _, params := ⟨_, _, _, _, _, _, _⟩, body := .stmts _, scope := ⟨_, _, _, _, _⟩, globals := 3, closure := [], defaults := .none, kwdefaults := .none, pyModule := _, code := .ref 27 } }, rfl⟩
noncomputable def fn36 : {o : Obj // o = fnK (nthK topS.1 5) 35 "cpy313.base64" 214} := ⟨{ cls := .type "function", data := .func { name := _, qualname := _, params := ⟨_, _, _, _, _, _, _⟩, body := .stmts _, scope := ⟨_, _, _, _, _⟩, globals := 3, closure := [], defaults := .none, kwdefaults := .none, pyModule := _, code := .ref 35 } }, rfl⟩
noncomputable def fn43 : {o : Obj // o = fnK (nthK topS.1 7) 42 "cpy313.heapq" 224} := ⟨{ cls := .type "function", data := .func { name := _, qualname := _, params := ⟨_, _, _, _, _, _, _⟩, body := .stmts _, scope := ⟨_, _, _, _, _⟩, globals := 3, closure := [], defaults := .none, kwdefaults := .none, pyModule := _, code := .ref 42 } }, rfl⟩
noncomputable def fn50 : {o : Obj // o = fnK (nthK topS.1 8) 49 "cpy313.heapq" 224} := ⟨{ cls := .type "function", data := .func { name := _, qualname := _, params := ⟨_, _, _, _, _, _, _⟩, body := .stmts _, scope := ⟨_, _, _, _, _⟩, globals := 3, closure := [], defaults := .none, kwdefaults := .none, pyModule := _, code := .ref 49 } }, rfl⟩
noncomputable def fn57 : {o : Obj // o = fnK (nthK topS.1 9) 56 "cpy313.heapq" 224} := ⟨{ cls := .type "function", data := .func { name := _, qualname := _, params := ⟨_, _, _, _, _, _, _⟩, body := .stmts _, scope := ⟨_, _, _, _, _⟩, globals := 3, closure := [], defaults := .none, kwdefaults := .none, pyModule := _, code := .ref 56 } }, rfl⟩
noncomputable def fn64 : {o : Obj // o = fnK (nthK topS.1 10) 63 "cpy313.heapq" 224} := ⟨{ cls := .type "function", data := .func { name := _, qualname := _, params := ⟨_, _, _, _, _, _, _⟩, body := .stmts _, scope := ⟨_, _, _, _, _⟩, globals := 3, closure := [], defaults := .none, kwdefaults := .none, pyModule := _, code := .ref 63 } }, rfl⟩
noncomputable def fn71 : {o : Obj // o = fnK (nthK topS.1 12) 70 "law_op0034_01" 268} := ⟨{ cls := .type "function", data := .func { name := _, qualname := _, params := ⟨_, _, _, _, _, _, _⟩, body := .stmts _, scope := ⟨_, _, _, _, _⟩, globals := 3, closure := [], defaults := .none, kwdefaults := .none, pyModule := _, code := .ref 70 } }, rfl⟩
noncomputable def fn78 : {o : Obj // o = fnK (nthK topS.1 13) 77 "law_op0034_01" 268} := ⟨{ cls := .type "function", data := .func { name := _, qualname := _, params := ⟨_, _, _, _, _, _, _⟩, body := .stmts _, scope := ⟨_, _, _, _, _⟩, globals := 3, closure := [], defaults := .none, kwdefaults := .none, pyModule := _, code := .ref 77 } }, rfl⟩
noncomputable def fn85 : {o : Obj // o = fnK (nthK topS.1 14) 84 "law_op0034_01" 268} := ⟨{ cls := .type "function", data := .func { name := _, qualname := _, params := ⟨_, _, _, _, _, _, _⟩, body := .stmts _, scope := ⟨_, _, _, _, _⟩, globals := 3, closure := [], defaults := .none, kwdefaults := .none, pyModule := _, code := .ref 84 } }, rfl⟩
noncomputable def fn92 : {o : Obj // o = fnK (nthK topS.1 15) 91 "law_op0034_01" 268} := ⟨{ cls := .type "function", data := .func { name := _, qualname := _, params := ⟨_, _, _, _, _, _, _⟩, body := .stmts _, scope := ⟨_, _, _, _, _⟩, globals := 3, closure := [], defaults := .none, kwdefaults := .none, pyModule := _, code := .ref 91 } }, rfl⟩
noncomputable def fn99 : {o : Obj // o = fnK (nthK topS.1 16) 98 "law_op0034_01" 268} := ⟨{ cls := .type "function", data := .func { name := _, qualname := _, params := ⟨_, _, _, _, _, _, _⟩, body := .stmts _, scope := ⟨_, _, _, _, _⟩, globals := 3, closure := [], defaults := .none, kwdefaults := .none, pyModule := _, code := .ref 98 } }, rfl⟩
noncomputable def fn104 : {o : Obj // o = fnK (nthK topS.1 17) 103 "law_op0034_01" 268} := ⟨{ cls := .type "function", data := .func { name := _, qualname := _, params := ⟨_, _, _, _, _, _, _⟩, body := .stmts _, scope := ⟨_, _, _, _, _⟩, globals := 3, closure := [], defaults := .none, kwdefaults := .none, pyModule := _, code := .ref 103 } }, rfl⟩
noncomputable def fn109 : {o : Obj // o = fnK (nthK topS.1 18) 108 "law_op0034_01" 268} := ⟨{ cls := .type "function", data := .func { name := _, qualname := _, params := ⟨_, _, _, _, _, _, _⟩, body := .stmts _, scope := ⟨_, _, _, _, _⟩, globals := 3, closure := [], defaults := .none, kwdefaults := .none, pyModule := _, code := .ref 108 } }, rfl⟩
noncomputable def fn114 : {o : Obj // o = fnK (nthK topS.1 19) 113 "law_op0034_01" 268} := ⟨{ cls := .type "function", data := .func { name := _, qualname := _, params := ⟨_, _, _, _, _, _, _⟩, body := .stmts _, scope := ⟨_, _, _, _, _⟩, globals := 3, closure := [], defaults := .none, kwdefaults := .none, pyModule := _, code := .ref 113 } }, rfl⟩
noncomputable def heapK (P : Params) : Frag := [
  (2, { cls := Value.none, data := Data.dict #[] }),
  (3, { cls := Value.type "dict", data := Data.dict #[{ hash := PyData.keyHash P (Str.ofString "__name__"), key := Value.str (Str.ofString "__name__") 165, val := Value.str (Str.ofString "law_op0034_01") 268 }, { hash := PyData.keyHash P (Str.ofString "__doc__"), key := Value.str (Str.ofString "__doc__") 166, val := Value.none }, { hash := PyData.keyHash P (Str.ofString "__package__"), key := Value.str (Str.ofString "__package__") 167, val := Value.none }, { hash := PyData.keyHash P (Str.ofString "__loader__"), key := Value.str (Str.ofString "__loader__") 168, val := Value.builtin "__main__.__loader__#opaque" }, { hash := PyData.keyHash P (Str.ofString "__spec__"), key := Value.str (Str.ofString "__spec__") 169, val := Value.none }, { hash := PyData.keyHash P (Str.ofString "__annotations__"), key := Value.str (Str.ofString "__annotations__") 170, val := Value.ref 6 }, { hash := PyData.keyHash P (Str.ofString "__builtins__"), key := Value.str (Str.ofString "__builtins__") 171, val := Value.ref 4 }, { hash := PyData.keyHash P (Str.ofString "__file__"), key := Value.str (Str.ofString "__file__") 173, val := Value.str (Str.ofString "/claim/cut.py") 172 }, { hash := PyData.keyHash P (Str.ofString "__cached__"), key := Value.str (Str.ofString "__cached__") 174, val := Value.none }, { hash := PyData.keyHash P (Str.ofString "get_parent_map"), key := Value.str (Str.ofString "get_parent_map") 198, val := Value.ref 21 }, { hash := PyData.keyHash P (Str.ofString "_prepare_tag"), key := Value.str (Str.ofString "_prepare_tag") 213, val := Value.ref 28 }, { hash := PyData.keyHash P (Str.ofString "bytes_types"), key := Value.str (Str.ofString "bytes_types") 216, val := Value.ref 29 }, { hash := PyData.keyHash P (Str.ofString "_bytes_from_decode_data"), key := Value.str (Str.ofString "_bytes_from_decode_data") 223, val := Value.ref 36 }, { hash := PyData.keyHash P (Str.ofString "heappush"), key := Value.str (Str.ofString "heappush") 233, val := Value.ref 43 }, { hash := PyData.keyHash P (Str.ofString "heappop"), key := Value.str (Str.ofString "heappop") 242, val := Value.ref 50 }, { hash := PyData.keyHash P (Str.ofString "_siftdown"), key := Value.str (Str.ofString "_siftdown") 254, val := Value.ref 57 }, { hash := PyData.keyHash P (Str.ofString "_siftup"), key := Value.str (Str.ofString "_siftup") 267, val := Value.ref 64 }, { hash := PyData.keyHash P (Str.ofString "_law_element"), key := Value.str (Str.ofString "_law_element") 277, val := Value.ref 71 }, { hash := PyData.keyHash P (Str.ofString "_law_context"), key := Value.str (Str.ofString "_law_context") 287, val := Value.ref 78 }, { hash := PyData.keyHash P (Str.ofString "_law_octets"), key := Value.str (Str.ofString "_law_octets") 296, val := Value.ref 85 }, { hash := PyData.keyHash P (Str.ofString "_law_tags"), key := Value.str (Str.ofString "_law_tags") 309, val := Value.ref 92 }, { hash := PyData.keyHash P (Str.ofString "_law_ahead"), key := Value.str (Str.ofString "_law_ahead") 323, val := Value.ref 99 }, { hash := PyData.keyHash P (Str.ofString "_law_settled"), key := Value.str (Str.ofString "_law_settled") 329, val := Value.ref 104 }, { hash := PyData.keyHash P (Str.ofString "_law_looking_ahead"), key := Value.str (Str.ofString "_law_looking_ahead") 335, val := Value.ref 109 }, { hash := PyData.keyHash P (Str.ofString "law"), key := Value.str (Str.ofString "law") 341, val := Value.ref 114 }] 25 }),
  (6, { cls := Value.type "dict", data := Data.dict #[] }),
  (15, { cls := Value.type "tuple", data := Data.seq #[] }),
  (17, { cls := Value.type "tuple", data := Data.seq #[Value.str (Str.ofString "context") 192, Value.str (Str.ofString "parent_map") 193, Value.str (Str.ofString "p") 194, Value.str (Str.ofString "e") 195] }),
  (18, { cls := Value.type "tuple", data := Data.seq #[] }),
  (20, { cls := Value.type "code", data := Data.fields #[Value.str (Str.ofString "get_parent_map") 189, Value.str (Str.ofString "get_parent_map") 190, Value.str (Str.ofString "/claim/cut.py") 191, Value.int 2 0, Value.int 1 0, Value.int 0 0, Value.int 0 0, Value.int 3 0, Value.ref 15, Value.bool true, Value.int 181 0, Value.ref 16, Value.none, Value.ref 17, Value.ref 18, Value.ref 19, Value.int 196 0, Value.int 2 0, Value.str (Str.ofString "/claim/cut.py") 197] }),
  (21, fn21.1),
  (22, { cls := Value.type "tuple", data := Data.seq #[] }),
  (24, { cls := Value.type "tuple", data := Data.seq #[Value.str (Str.ofString "tag") 202, Value.str (Str.ofString "select") 203] }),
  (25, { cls := Value.type "tuple", data := Data.seq #[Value.str (Str.ofString "tag") 204, Value.str (Str.ofString "_isinstance") 205, Value.str (Str.ofString "_str") 206, Value.str (Str.ofString "no_ns") 207, Value.str (Str.ofString "ns") 208, Value.str (Str.ofString "ns_only") 209, Value.str (Str.ofString "suffix") 210] }),
  (27, { cls := Value.type "code", data := Data.fields #[Value.str (Str.ofString "_prepare_tag") 199, Value.str (Str.ofString "_prepare_tag") 200, Value.str (Str.ofString "/claim/cut.py") 201, Value.int 10 0, Value.int 1 0, Value.int 0 0, Value.int 0 0, Value.int 3 0, Value.ref 22, Value.bool true, Value.int 181 0, Value.ref 23, Value.none, Value.ref 24, Value.ref 25, Value.ref 26, Value.int 211 0, Value.int 10 0, Value.str (Str.ofString "/claim/cut.py") 212] }),
  (28, fn28.1),
  (29, { cls := Value.type "tuple", data := Data.seq #[Value.type "bytes", Value.type "bytearray"] }),
  (30, { cls := Value.type "tuple", data := Data.seq #[] }),
  (32, { cls := Value.type "tuple", data := Data.seq #[Value.str (Str.ofString "s") 220] }),
  (33, { cls := Value.type "tuple", data := Data.seq #[] }),
  (35, { cls := Value.type "code", data := Data.fields #[Value.str (Str.ofString "_bytes_from_decode_data") 217, Value.str (Str.ofString "_bytes_from_decode_data") 218, Value.str (Str.ofString "/claim/cut.py") 219, Value.int 49 0, Value.int 1 0, Value.int 0 0, Value.int 0 0, Value.int 3 0, Value.ref 30, Value.bool true, Value.int 181 0, Value.ref 31, Value.none, Value.ref 32, Value.ref 33, Value.ref 34, Value.int 221 0, Value.int 49 0, Value.str (Str.ofString "/claim/cut.py") 222] }),
  (36, fn36.1),
  (37, { cls := Value.type "tuple", data := Data.seq #[] }),
  (39, { cls := Value.type "tuple", data := Data.seq #[Value.str (Str.ofString "heap") 229, Value.str (Str.ofString "item") 230] }),
  (40, { cls := Value.type "tuple", data := Data.seq #[] }),
  (42, { cls := Value.type "code", data := Data.fields #[Value.str (Str.ofString "heappush") 226, Value.str (Str.ofString "heappush") 227, Value.str (Str.ofString "/claim/cut.py") 228, Value.int 62 0, Value.int 2 0, Value.int 0 0, Value.int 0 0, Value.int 3 0, Value.ref 37, Value.bool true, Value.int 181 0, Value.ref 38, Value.none, Value.ref 39, Value.ref 40, Value.ref 41, Value.int 231 0, Value.int 62 0, Value.str (Str.ofString "/claim/cut.py") 232] }),
  (43, fn43.1),
  (44, { cls := Value.type "tuple", data := Data.seq #[] }),
  (46, { cls := Value.type "tuple", data := Data.seq #[Value.str (Str.ofString "heap") 237, Value.str (Str.ofString "lastelt") 238, Value.str (Str.ofString "returnitem") 239] }),
  (47, { cls := Value.type "tuple", data := Data.seq #[] }),
  (49, { cls := Value.type "code", data := Data.fields #[Value.str (Str.ofString "heappop") 234, Value.str (Str.ofString "heappop") 235, Value.str (Str.ofString "/claim/cut.py") 236, Value.int 65 0, Value.int 1 0, Value.int 0 0, Value.int 0 0, Value.int 3 0, Value.ref 44, Value.bool true, Value.int 181 0, Value.ref 45, Value.none, Value.ref 46, Value.ref 47, Value.ref 48, Value.int 240 0, Value.int 65 0, Value.str (Str.ofString "/claim/cut.py") 241] }),
  (50, fn50.1),
  (51, { cls := Value.type "tuple", data := Data.seq #[] }),
  (53, { cls := Value.type "tuple", data := Data.seq #[Value.str (Str.ofString "heap") 246, Value.str (Str.ofString "startpos") 247, Value.str (Str.ofString "pos") 248, Value.str (Str.ofString "newitem") 249, Value.str (Str.ofString "parentpos") 250, Value.str (Str.ofString "parent") 251] }),
  (54, { cls := Value.type "tuple", data := Data.seq #[] }),
  (56, { cls := Value.type "code", data := Data.fields #[Value.str (Str.ofString "_siftdown") 243, Value.str (Str.ofString "_siftdown") 244, Value.str (Str.ofString "/claim/cut.py") 245, Value.int 73 0, Value.int 3 0, Value.int 0 0, Value.int 0 0, Value.int 3 0, Value.ref 51, Value.bool true, Value.int 181 0, Value.ref 52, Value.none, Value.ref 53, Value.ref 54, Value.ref 55, Value.int 252 0, Value.int 73 0, Value.str (Str.ofString "/claim/cut.py") 253] }),
  (57, fn57.1),
  (58, { cls := Value.type "tuple", data := Data.seq #[] }),
  (60, { cls := Value.type "tuple", data := Data.seq #[Value.str (Str.ofString "heap") 258, Value.str (Str.ofString "pos") 259, Value.str (Str.ofString "endpos") 260, Value.str (Str.ofString "startpos") 261, Value.str (Str.ofString "newitem") 262, Value.str (Str.ofString "childpos") 263, Value.str (Str.ofString "rightpos") 264] }),
  (61, { cls := Value.type "tuple", data := Data.seq #[] }),
  (63, { cls := Value.type "code", data := Data.fields #[Value.str (Str.ofString "_siftup") 255, Value.str (Str.ofString "_siftup") 256, Value.str (Str.ofString "/claim/cut.py") 257, Value.int 84 0, Value.int 2 0, Value.int 0 0, Value.int 0 0, Value.int 3 0, Value.ref 58, Value.bool true, Value.int 181 0, Value.ref 59, Value.none, Value.ref 60, Value.ref 61, Value.ref 62, Value.int 265 0, Value.int 84 0, Value.str (Str.ofString "/claim/cut.py") 266] }),
  (64, fn64.1),
  (65, { cls := Value.type "tuple", data := Data.seq #[] }),
  (67, { cls := Value.type "tuple", data := Data.seq #[Value.str (Str.ofString "tag") 273, Value.str (Str.ofString "element") 274] }),
  (68, { cls := Value.type "tuple", data := Data.seq #[] }),
  (70, { cls := Value.type "code", data := Data.fields #[Value.str (Str.ofString "_law_element") 270, Value.str (Str.ofString "_law_element") 271, Value.str (Str.ofString "/claim/cut.py") 272, Value.int 99 0, Value.int 1 0, Value.int 0 0, Value.int 0 0, Value.int 3 0, Value.ref 65, Value.bool true, Value.int 181 0, Value.ref 66, Value.none, Value.ref 67, Value.ref 68, Value.ref 69, Value.int 275 0, Value.int 99 0, Value.str (Str.ofString "/claim/cut.py") 276] }),
  (71, fn71.1),
  (72, { cls := Value.type "tuple", data := Data.seq #[] }),
  (74, { cls := Value.type "tuple", data := Data.seq #[Value.str (Str.ofString "families") 281, Value.str (Str.ofString "root") 282, Value.str (Str.ofString "context") 283] }),
  (75, { cls := Value.type "tuple", data := Data.seq #[Value.str (Str.ofString "families") 284] }),
  (77, { cls := Value.type "code", data := Data.fields #[Value.str (Str.ofString "_law_context") 278, Value.str (Str.ofString "_law_context") 279, Value.str (Str.ofString "/claim/cut.py") 280, Value.int 103 0, Value.int 1 0, Value.int 0 0, Value.int 0 0, Value.int 3 0, Value.ref 72, Value.bool true, Value.int 181 0, Value.ref 73, Value.none, Value.ref 74, Value.ref 75, Value.ref 76, Value.int 285 0, Value.int 103 0, Value.str (Str.ofString "/claim/cut.py") 286] }),
  (78, fn78.1),
  (79, { cls := Value.type "tuple", data := Data.seq #[] }),
  (81, { cls := Value.type "tuple", data := Data.seq #[Value.str (Str.ofString "name") 291, Value.str (Str.ofString "octets") 292, Value.str (Str.ofString "error") 293] }),
  (82, { cls := Value.type "tuple", data := Data.seq #[] }),
  (84, { cls := Value.type "code", data := Data.fields #[Value.str (Str.ofString "_law_octets") 288, Value.str (Str.ofString "_law_octets") 289, Value.str (Str.ofString "/claim/cut.py") 290, Value.int 110 0, Value.int 1 0, Value.int 0 0, Value.int 0 0, Value.int 3 0, Value.ref 79, Value.bool true, Value.int 181 0, Value.ref 80, Value.none, Value.ref 81, Value.ref 82, Value.ref 83, Value.int 294 0, Value.int 110 0, Value.str (Str.ofString "/claim/cut.py") 295] }),
  (85, fn85.1),
  (86, { cls := Value.type "tuple", data := Data.seq #[] }),
  (88, { cls := Value.type "tuple", data := Data.seq #[Value.str (Str.ofString "script") 300, Value.str (Str.ofString "words") 301, Value.str (Str.ofString "tags") 302, Value.str (Str.ofString "x") 303, Value.str (Str.ofString "kind") 304, Value.str (Str.ofString "source") 305, Value.str (Str.ofString "target") 306] }),
  (89, { cls := Value.type "tuple", data := Data.seq #[] }),
  (91, { cls := Value.type "code", data := Data.fields #[Value.str (Str.ofString "_law_tags") 297, Value.str (Str.ofString "_law_tags") 298, Value.str (Str.ofString "/claim/cut.py") 299, Value.int 116 0, Value.int 1 0, Value.int 0 0, Value.int 0 0, Value.int 3 0, Value.ref 86, Value.bool true, Value.int 181 0, Value.ref 87, Value.none, Value.ref 88, Value.ref 89, Value.ref 90, Value.int 307 0, Value.int 116 0, Value.str (Str.ofString "/claim/cut.py") 308] }),
  (92, fn92.1),
  (93, { cls := Value.type "tuple", data := Data.seq #[] }),
  (95, { cls := Value.type "tuple", data := Data.seq #[Value.str (Str.ofString "words") 313, Value.str (Str.ofString "places") 314, Value.str (Str.ofString "row") 315, Value.str (Str.ofString "ahead") 316, Value.str (Str.ofString "word") 317, Value.str (Str.ofString "ends") 318, Value.str (Str.ofString "element") 319, Value.str (Str.ofString "octets") 320] }),
  (96, { cls := Value.type "tuple", data := Data.seq #[] }),
  (98, { cls := Value.type "code", data := Data.fields #[Value.str (Str.ofString "_law_ahead") 310, Value.str (Str.ofString "_law_ahead") 311, Value.str (Str.ofString "/claim/cut.py") 312, Value.int 125 0, Value.int 3 0, Value.int 0 0, Value.int 0 0, Value.int 3 0, Value.ref 93, Value.bool true, Value.int 181 0, Value.ref 94, Value.none, Value.ref 95, Value.ref 96, Value.ref 97, Value.int 321 0, Value.int 125 0, Value.str (Str.ofString "/claim/cut.py") 322] }),
  (99, fn99.1),
  (100, { cls := Value.type "tuple", data := Data.seq #[] }),
  (103, { cls := Value.type "code", data := Data.fields #[Value.str (Str.ofString "_law_settled") 324, Value.str (Str.ofString "_law_settled") 325, Value.str (Str.ofString "/claim/cut.py") 326, Value.int 135 0, Value.int 4 0, Value.int 0 0, Value.int 0 0, Value.int 3 0, Value.ref 100, Value.bool true, Value.int 181 0, Value.ref 101, Value.none, Value.none, Value.none, Value.ref 102, Value.int 327 0, Value.int 135 0, Value.str (Str.ofString "/claim/cut.py") 328] }),
  (104, fn104.1),
  (105, { cls := Value.type "tuple", data := Data.seq #[] }),
  (108, { cls := Value.type "code", data := Data.fields #[Value.str (Str.ofString "_law_looking_ahead") 330, Value.str (Str.ofString "_law_looking_ahead") 331, Value.str (Str.ofString "/claim/cut.py") 332, Value.int 160 0, Value.int 1 0, Value.int 0 0, Value.int 0 0, Value.int 3 0, Value.ref 105, Value.bool true, Value.int 181 0, Value.ref 106, Value.none, Value.none, Value.none, Value.ref 107, Value.int 333 0, Value.int 160 0, Value.str (Str.ofString "/claim/cut.py") 334] }),
  (109, fn109.1),
  (110, { cls := Value.type "tuple", data := Data.seq #[] }),
  (113, { cls := Value.type "code", data := Data.fields #[Value.str (Str.ofString "law") 336, Value.str (Str.ofString "law") 337, Value.str (Str.ofString "/claim/cut.py") 338, Value.int 172 0, Value.int 1 0, Value.int 0 0, Value.int 0 0, Value.int 3 0, Value.ref 110, Value.bool true, Value.int 181 0, Value.ref 111, Value.none, Value.none, Value.none, Value.ref 112, Value.int 339 0, Value.int 172 0, Value.str (Str.ofString "/claim/cut.py") 340] }),
  (114, fn114.1)]
noncomputable def addrK : List Addr := [2, 3, 6, 15, 17, 18, 20, 21, 22, 24, 25, 27, 28, 29, 30, 32, 33, 35, 36, 37, 39, 40, 42, 43, 44, 46, 47, 49, 50, 51, 53, 54, 56, 57, 58, 60, 61, 63, 64, 65, 67, 68, 70, 71, 72, 74, 75, 77, 78, 79, 81, 82, 84, 85, 86, 88, 89, 91, 92, 93, 95, 96, 98, 99, 100, 103, 104, 105, 108, 109, 110, 113, 114]
theorem addrK_eq (P : Params) : addrK = (heapK P).map (·.1) := by kernel_rfl
noncomputable abbrev hookK : Hook := kmHook heapK addrK addrK_eq [73, 66, 23]
noncomputable def viewK : Program := view pgmK [19]
noncomputable abbrev looseK : List Str := [Str.ofString "bytes_types", Str.ofString "get_parent_map", Str.ofString "_prepare_tag", Str.ofString "_bytes_from_decode_data", Str.ofString "heappush", Str.ofString "heappop", Str.ofString "_siftdown", Str.ofString "_siftup", Str.ofString "_law_element", Str.ofString "_law_context", Str.ofString "_law_octets", Str.ofString "_law_tags", Str.ofString "_law_ahead", Str.ofString "_law_settled", Str.ofString "_law_looking_ahead"]
noncomputable def xtK (s : Shared) : Bool := xlAt viewK [] s && recOk (RowW.records rowK.toRowW) s
theorem leftK : LeftO rowK.prog viewK looseK xtK hookK.obs hookK.val 1170 := fun w => by
  unfold openEnds topFrom
  rw [show @topRun = _ from PySem.W.Fast.te14082659384304107361, show @openSeen = _ from PySem.W.Fast.te4187177175401517315]
  kernel_rfl
theorem lawSaid : Challenge.rw_op0034_01.wellSaid = true := by
  unfold OpenLaw.wellSaid OpenRow.wellSaid OpenRow.partSaid looksOpen
  repeat' (with_reducible refine look_both ?_ ?_)
  all_goals (try rw [show @namesMeet = _ from PySem.W.Fast.te17119622794617984870])
  all_goals (try rw [show @noRoadLSs = _ from PySem.W.Fast.te8326940854005059898])
  all_goals (try rw [show @namesResolve = _ from PySem.W.Fast.te8377067652309620493])
  all_goals decide +kernel
theorem viewOk : (chainsOk viewK && opensWell rowK.prog && (frees rowK.toRowW && rowK.within.isEmpty)) = true := by
  unfold opensWell frees
  repeat' (with_reducible refine look_both ?_ ?_)
  all_goals decide +kernel
theorem hd {d : DefRec} {kwd : List (Str × Expr)} (hdef : defOf viewK rowK.name = some (d, kwd)) (hp : rowK.prog.theDef rowK.name = some (d.params, d.body, d.scope)) (hk : kwWritten? d.params.kwonlyargs d.params.kw_defaults = some kwd)
    (h : WalkO viewK looseK (XL viewK []) hookK.says rowK.toRowW d kwd fun f vs => PySem.call f vs) : Challenge.rw_op0034_01.Holds := by
  refine holds_law lawSaid fun said => ?_
  exact holds_open (q := viewK) leftK hookK.of hookK.keeps (fun s e => xl_of s (Bool.and_eq_true_iff.mp e).1) XL.keeps hdef hp hk (fun s e => recFacts_of (Bool.and_eq_true_iff.mp e).2) (by rfl) (by first | assumption | decide +kernel) viewOk ⟨rfl, rfl, rfl, rfl, rfl, by decide +kernel⟩ (by w_witness2) h
end Mine
end
section
set_option maxHeartbeats 8000000
open PySem PySem.W PyProof.Rows PySem.Calls
namespace Mine
/-- the places below which all stands to the sign -/
class Bs where
  n : Nat
variable [Bs]
noncomputable abbrev PG : Program := PySem.Challenge.pw_op0034_01
noncomputable abbrev NoE : Value → Shared → Prop := fun _ _ => False
/-! heaps kept: an object stands as it stood; a dict's object (a frame's) above the top may turn its slots -/
noncomputable def Pl (a : Addr) (o : Obj) : Prop := a ≤ 114 ∨ ∀ es n, o.data = .dict es n → a < Bs.n
noncomputable def Ext (X : Addr → Prop) (h h' : Heap) : Prop := ∀ a o, h.get? a = some o → ¬ X a → ∃ sl, h'.get? a = some { o with slots := sl } ∧ (Pl a o → sl = o.slots)
noncomputable abbrev Non : Addr → Prop := fun _ => False
noncomputable abbrev At (a : Addr) : Addr → Prop := fun b => b = a
theorem Ext.get {X : Addr → Prop} {h h' : Heap} (x : Ext X h h') {a : Addr} {o : Obj} (e : h.get? a = some o) (n : ¬ X a) (p : Pl a o) : h'.get? a = some o := by
  obtain ⟨sl, e', q⟩ := x a o e n
  rw [e', q p]
theorem Ext.data {X : Addr → Prop} {h h' : Heap} (x : Ext X h h') {a : Addr} {o : Obj} (e : h.get? a = some o) (n : ¬ X a) : ∃ o', h'.get? a = some o' ∧ o'.data = o.data ∧ o'.cls = o.cls ∧ o'.dict = o.dict := by
  obtain ⟨sl, e', _⟩ := x a o e n
  exact ⟨_, e', rfl, rfl, rfl⟩
theorem Ext.of {h h' : Heap} (x : ∀ b o, h.get? b = some o → h'.get? b = some o) (X : Addr → Prop) : Ext X h h' := fun b o e _ => ⟨o.slots, x b o e, fun _ => rfl⟩
theorem Ext.refl (X : Addr → Prop) (h : Heap) : Ext X h h := Ext.of (fun _ _ e => e) X
theorem Ext.step {X Y : Addr → Prop} {h h' h'' : Heap} (x : Ext X h h') (y : Ext Y h' h'') (i : ∀ a o, h.get? a = some o → Y a → X a) : Ext X h h'' := fun a o e n => by
  obtain ⟨sl, e', q⟩ := x a o e n
  obtain ⟨sl', e'', q'⟩ := y a _ e' (fun z => n (i a o e z))
  exact ⟨sl', e'', fun p => (q' (p.imp id fun z => z)).trans (q p)⟩
theorem Ext.trans {X : Addr → Prop} {h h' h'' : Heap} (x : Ext X h h') (y : Ext X h' h'') : Ext X h h'' := x.step y fun _ _ _ z => z
theorem Ext.non {X : Addr → Prop} {h h' h'' : Heap} (x : Ext X h h') (y : Ext Non h' h'') : Ext X h h'' := x.step y fun _ _ _ z => z.elim
theorem Ext.mono {X Y : Addr → Prop} {h h' : Heap} (x : Ext X h h') (i : ∀ a, X a → Y a) : Ext Y h h' := fun a o e n => x a o e fun q => n (i a q)
/-- a change at a place that the first heap has not -/
theorem Ext.st {X : Addr → Prop} {h h' h'' : Heap} {L : Addr} (x : Ext X h h') (y : Ext (At L) h' h'') (l : h.objs.size ≤ L) : Ext X h h'' :=
  x.step y fun a o e z => absurd (Heap.lt_size e) (by rw [z]; exact Nat.not_lt.mpr l)
theorem Ext.sameBut {h h' : Heap} {a : Addr} (x : Heap.SameBut a h h') {X : Addr → Prop} (i : X a) : Ext X h h' := fun b o e n => ⟨o.slots, (x.2 b (fun q => n (q ▸ i))).trans e, fun _ => rfl⟩
theorem Ext.push (X : Addr → Prop) (h : Heap) (o : Obj) : Ext X h (h.push o) := Ext.of (fun _ _ e => Heap.get?_push_of_some o e) X
theorem Ext.ns {X : Addr → Prop} {h h' : Heap} (x : Ext X h h') {L : Addr} {m : Str → Option Value} (F : h.Ns L m) (n : ¬ X L) : h'.Ns L m := by
  obtain ⟨o, es, ep, ho, hd, r⟩ := F
  obtain ⟨o', ho', hd', _⟩ := x.data ho n
  exact ⟨o', es, ep, ho', hd'.trans hd, r⟩
/-- the places that the top's tables of code lie at -/
noncomputable abbrev Tb : Addr → Prop := fun a => a = 23 ∨ a = 66 ∨ a = 73
noncomputable abbrev Hi : Addr → Prop := fun a => 114 < a
structure Gd (w : World) (mg mb : Str → Option Value) (h : Heap) : Prop where
  k : (heapK w.params).In h
  g : h.Ns mainGlobals mg
  b : h.Ns builtinsNs mb
  lim : h.NoLimit
  boot : ∀ x : Str, x ≠ "__name__" → mb x = bootBuiltins x
  md : ∃ o, h.get? 4 = some o ∧ o.cls = .type "module" ∧ o.dict = some builtinsNs ∧ o.data = .plain
theorem keysLo (p : Params) : ∀ a o, (heapK p).lookup a = some o → a ≤ 114 ∧ ¬ Tb a := by
  have key : ((heapK p).map (·.1)).all (fun a => decide (a ≤ 114) && (a != 23 && a != 66 && a != 73)) = true := by kernel_rfl
  intro a o e
  have hm : a ∈ (heapK p).map (·.1) := by
    generalize heapK p = l at e
    induction l with
    | nil => cases e
    | cons x r ih =>
      rw [List.lookup_cons] at e
      cases q : a == x.1 with
      | true => rw [eq_of_beq q]; exact List.mem_map_of_mem (.head _)
      | false => rw [q] at e; exact List.mem_cons_of_mem _ (ih e)
  have z := List.all_eq_true.mp key a hm
  simp only [Bool.and_eq_true, decide_eq_true_eq, bne_iff_ne, ne_eq] at z
  exact ⟨z.1, fun t => by rcases t with t | t | t <;> simp_all⟩
theorem Gd.ext {w : World} {mg mb : Str → Option Value} {h h' : Heap} {X : Addr → Prop} (G : Gd w mg mb h) (x : Ext X h h') (hX : ∀ a, X a → Hi a ∨ Tb a) : Gd w mg mb h' := by
  have nx : ∀ a, a ≤ 114 → ¬ Tb a → ¬ X a := fun a l t q => by
    rcases hX a q with y | y
    · exact absurd l (Nat.not_le.mpr y)
    · exact t y
  refine ⟨fun a o e => x.get (G.k a o e) (nx a (keysLo _ a o e).1 (keysLo _ a o e).2) (.inl (keysLo _ a o e).1), ?_, ?_, ?_, G.boot, let ⟨o, ho, r⟩ := G.md; ⟨o, x.get ho (nx _ (by decide) (by decide)) (.inl (by decide)), r⟩⟩
  · exact x.ns G.g (nx _ (by decide) (by decide))
  · exact x.ns G.b (nx _ (by decide) (by decide))
  · obtain ⟨m, hm, hn⟩ := G.lim
    exact ⟨m, x.ns hm (nx _ (by decide) (by decide)), hn⟩
/-- room: depth and units -/
structure Rm (A : Around) (d : Nat) : Prop where
  depth : A.depth + d < recursionLimit
  units : A.units + 20 * d < cLine
  handled : A.handled = none
theorem Rm.in1 {A : Around} {d : Nat} (r : Rm A (d + 1)) : Rm A.in1 d := ⟨by have := r.depth; show A.depth + d < _; omega, by have := r.units; show A.units + 1 + 20 * d < _; omega, r.handled⟩
theorem Rm.deeper {A : Around} {d : Nat} (r : Rm A (d + 1)) (env : Env) : Rm (A.deeper env) d := ⟨by have := r.depth; show A.depth + 1 + d < _; omega, by have := r.units; show A.units + 3 + 20 * d < _; omega, r.handled⟩
theorem Rm.le {A : Around} {d d' : Nat} (r : Rm A d) (h : d' ≤ d) : Rm A d' := ⟨by have := r.depth; omega, by have := r.units; omega, r.handled⟩
theorem Rm.u {A : Around} {d : Nat} (r : Rm A d) : A.units < cLine := by have := r.units; omega
theorem Rm.d {A : Around} {d : Nat} (r : Rm A d) : A.depth < recursionLimit := by have := r.depth; omega
/-! loops -/
section
variable {prog : Program} {w : World} {A : Around} {E : Value → Shared → Prop} {s : Shared} {env : Env} {Q : Flow → Shared → Prop}
theorem while_ {test : Expr} {body orelse : List Stmt} {pos : Pos} (I : Nat → Shared → Prop)
    (turn : ∀ n s, I n s → wpAny (model prog w) A (isTrue test env (eval test env)) (fun b s₂ =>
        if b then wpAny (model prog w) A (execs body env) (fun f s₃ => match f with
            | .next | .cont => ∃ m, m < n ∧ I m s₃
            | .brk => Q .next s₃
            | .ret v => Q (.ret v) s₃) NoE s₂
        else wpAny (model prog w) A (execs orelse env) Q NoE s₂) NoE s)
    (n : Nat) (h : I n s) : wpAny (model prog w) A (exec (.While test body orelse pos) env) Q E s := by
  refine wpAny_While (codeAny_whileLoop I (fun n s hI => ?_) n h)
  refine wpAny_mono (turn n s hI) (fun b s₂ hb => ?_) fun _ _ x => x.elim
  cases b with
  | false => simp only [Bool.false_eq_true, if_false] at hb ⊢; exact wpAny_mono hb (fun _ _ q => q) fun _ _ x => x.elim
  | true =>
    simp only [if_true] at hb ⊢
    refine wpAny_mono hb (fun f s₃ q => ?_) fun _ _ x => x.elim
    cases f <;> exact q
end
/-! locals -/
noncomputable abbrev Loc (h : Heap) (L : Addr) (l : List (Str × Value)) : Prop := h.Ns L (fun x => l.lookup x)
section
variable {M : Model} {A : Around} {E : Value → Shared → Prop} {s : Shared} {env : Env}
theorem Loc.name {l : List (Str × Value)} {x : Str} {pos : Pos} {v : Value} {Q : Value → Shared → Prop} (F : Loc s.heap env.locals l) (hv : l.lookup x = some v) (h : Q v s)
    (hk : env.scope.kind = .function := by rfl) (hl : env.kindOf x = some .local := by rfl) (hd : (x == ("__debug__" : Str)) = false := by decide) :
    wpAny M A (eval (.Name x pos) env) Q E s := wpAny_Name (wpAny_loadName_local hk hl F hv h) hd
theorem Loc.store {l : List (Str × Value)} {x : Str} {v : Value} {Q : Unit → Shared → Prop} (F : Loc s.heap env.locals l)
    (h : ∀ h', Loc h' env.locals ((x, v) :: l) → Ext (At env.locals) s.heap h' → Q () { s with heap := h', toks := s.toks + 1 })
    (hk : env.scope.kind = .function := by rfl) (hl : env.kindOf x = some .local := by rfl) : wpAny M A (storeName env x v) Q E s := by
  refine wpAny_storeName_local hl F (fun h' hn hs => h h' ?_ (Ext.sameBut hs rfl)) (by rw [hk]; rfl)
  have e : (fun y => if y = x then some v else l.lookup y) = fun y => ((x, v) :: l).lookup y := by
    funext y
    rw [List.lookup_cons]
    by_cases q : y = x
    · subst q; simp
    · have : (y == x) = false := beq_eq_false_iff_ne.mpr q
      rw [if_neg q, this]
  exact (congrArg (h'.Ns env.locals) e).mp hn
theorem Loc.same {h h' : Heap} {L a : Addr} {l : List (Str × Value)} (F : Loc h L l) (hs : Heap.SameBut a h h') (n : L ≠ a) : Loc h' L l := F.at' fun o e => (hs.2 L n).trans e
theorem Loc.ext {X : Addr → Prop} {h h' : Heap} {L : Addr} {l : List (Str × Value)} (F : Loc h L l) (x : Ext X h h') (n : ¬ X L) : Loc h' L l := x.ns F n
theorem Loc.eqv {h : Heap} {L : Addr} {l l' : List (Str × Value)} (F : Loc h L l) (e : ∀ x, l.lookup x = l'.lookup x) : Loc h L l' := by
  have : (fun x => l.lookup x) = fun x => l'.lookup x := funext e
  exact (congrArg (h.Ns L) this).mp F
end
/-! global names -/
section
variable {w : World} {M : Model} {A : Around} {E : Value → Shared → Prop} {s : Shared} {env : Env} {mg mb : Str → Option Value}
theorem Gd.glob {x : Str} {pos : Pos} {v : Value} {Q : Value → Shared → Prop} (G : Gd w mg mb s.heap) (e : nsIn (heapK w.params) mainGlobals x = some (some v)) (h : Q v s)
    (hk : env.scope.kind = .function := by rfl) (hl : env.kindOf x = some .globalImplicit := by rfl) (hg : env.globals = mainGlobals := by rfl) (hd : (x == ("__debug__" : Str)) = false := by decide) :
    wpAny M A (eval (.Name x pos) env) Q E s := Name_function_global hk hl (loadGlobal_global (hg ▸ G.g) (mg_of G.k G.g e) h) hd
theorem mg_miss {K : Frag} {h : Heap} {mg : Str → Option Value} {n : Str} (X : K.In h) (G : h.Ns mainGlobals mg) (e : nsIn K mainGlobals n = some none) : mg n = none := by
  obtain ⟨o, es, ep, ho, hd, _, hf⟩ := G
  unfold nsIn at e
  split at e
  · rename_i c d es' n' sl q
    have := X _ _ q
    rw [ho] at this
    cases this
    cases hd
    split at e
    · cases e
    · rename_i he
      rw [← hf]
      unfold nsFind findBy
      rw [← Array.find?_toList, he]
      rfl
  · cases e
theorem Gd.built {x : Str} {pos : Pos} {v : Value} {Q : Value → Shared → Prop} (G : Gd w mg mb s.heap) (e : nsIn (heapK w.params) mainGlobals x = some none) (hv : bootBuiltins x = some v) (h : Q v s)
    (hn : x ≠ "__name__" := by decide) (hk : env.scope.kind = .function := by rfl) (hl : env.kindOf x = some .globalImplicit := by rfl) (hg : env.globals = mainGlobals := by rfl) (hb : env.builtins = builtinsNs := by rfl)
    (hd : (x == ("__debug__" : Str)) = false := by decide) :
    wpAny M A (eval (.Name x pos) env) Q E s := Name_function_global hk hl (loadGlobal_builtin (hg ▸ G.g) (mg_miss G.k G.g e) (hb ▸ G.b) ((G.boot x hn).trans hv) h) hd
end
/-! lists -/
noncomputable def Ls (h : Heap) (l : Addr) (xs : List Value) : Prop := ∃ n, h.get? l = some { cls := .type "list", dict := none, data := .seq xs.toArray n, slots := #[] }
theorem Ls.isList {h : Heap} {l : Addr} {xs : List Value} (x : Ls h l xs) : h.IsList l xs.toArray := let ⟨n, e⟩ := x; ⟨_, e, rfl, n, rfl⟩
theorem Ls.lt {h : Heap} {l : Addr} {xs : List Value} (x : Ls h l xs) : l < h.objs.size := let ⟨_, e⟩ := x; Heap.lt_size e
theorem Ls.ext {X : Addr → Prop} {h h' : Heap} {l : Addr} {xs : List Value} (x : Ls h l xs) (e : Ext X h h') (n : ¬ X l) : Ls h' l xs := let ⟨k, q⟩ := x; ⟨k, e.get q n (.inr fun _ _ z => nomatch z)⟩
theorem Ls.new (h : Heap) (xs : List Value) : Ls (h.push { cls := .type "list", data := .seq xs.toArray }) h.objs.size xs := ⟨0, Heap.get?_push_size _ rfl⟩
theorem Ls.inj {h : Heap} {l : Addr} {xs ys : List Value} (x : Ls h l xs) (y : Ls h l ys) : xs = ys := by
  obtain ⟨n, e⟩ := x
  obtain ⟨m, e'⟩ := y
  rw [e] at e'
  have z := Option.some.inj e'
  injection z with _ _ z _
  injection z with z _
  exact congrArg Array.toList z
theorem Ls.upd {h : Heap} {l : Addr} {xs ys : List Value} (x : Ls h l xs) {f : Array Value → Array Value} (e : f xs.toArray = ys.toArray) : Ls (h.update l (Obj.mapSeq f)) l ys ∧ Ext (At l) h (h.update l (Obj.mapSeq f)) := by
  obtain ⟨n, q⟩ := x
  refine ⟨⟨(if ys.toArray.size == xs.toArray.size then n else n + 1), ?_⟩, Ext.sameBut (Heap.SameBut.update ..) rfl⟩
  have z := Heap.get?_update_self (Obj.mapSeq f) q (by rfl)
  rw [z]
  simp only [Obj.mapSeq, e]
section
variable {prog : Program} {w : World} {A : Around} {E : Value → Shared → Prop} {s : Shared} {env : Env}
/-- an item of a list -/
theorem item {value slice : Expr} {l : Addr} {xs : List Value} {k : Int} {u : Tok} {v : Value} {Q : Value → Shared → Prop}
    (hl : Ls s.heap l xs) (h0 : 0 ≤ k) (hhi : k < 2 ^ 63) (hx : xs[k.toNat]? = some v) (h : Q v s)
    (hs : subscripted slice false (.ref l) (.int k u) = operate [.ref l, .int k u] (getItem (.ref l) (.int k u)) := by with_unfolding_all rfl) :
    wpAny (model prog w) A (subscriptTail value slice (.ref l) (.int k u)) Q E s :=
  tail_any hl.isList.typeIs slot_list_getitem.lookup (wpAny_getItem_list hl.isList h0 hhi (by simpa using hx) h) hs
theorem putItemI {l : Addr} {xs : List Value} {k : Int} {t : Tok} {v : Value} {Q : Unit → Shared → Prop} (hl : Ls s.heap l xs) (h0 : 0 ≤ k) (hfit : k < 2 ^ 63) (hn : k.toNat < xs.length)
    (hQ : ∀ h', Ls h' l (xs.set k.toNat v) → Ext (At l) s.heap h' → Q () { s with heap := h' }) : wpAny (model prog w) A (setItem (.ref l) (.int k t) v) Q E s := by
  have hT := hl.isList.typeIs
  obtain ⟨y, z⟩ := hl.upd (f := (·.setIfInBounds k.toNat v)) (ys := xs.set k.toNat v) (by simp)
  obtain ⟨n, ho⟩ := hl
  unfold setItem
  try with_reducible refine wpAny_holding ?_
  first | refine wpAny_bind (wpAny_pure ?_) | skip
  refine wpAny_bind (wpAny_sequenceKey hT (by decide) ?_)
  refine wpAny_bind (wpAny_callSpecial?_slot (name := Str.ofString "__setitem__") hT slot_list_setitem
    (wpAny_call_entry slot_list_setitem hT entry_list_setitem ?_ (args_list_setitem _ _ _)))
  show wpAny _ _ (Builtin.List.listSubscript? (.int k t) >>= _) _ _ s
  refine wpAny_bind (wpAny_listSubscript_int (fitsIndex_of h0 hfit) ?_)
  clear hfit
  obtain ⟨j, rfl⟩ := Int.eq_ofNat_of_zero_le h0
  have hx : xs.toArray[j]? = some xs[j] := by simp
  show wpAny _ _ ((seqItemAt l j >>= fun r => pure (r.map (j, ·))) >>= _) _ _ s
  refine wpAny_bind (wpAny_bind (wpAny_seqItemAt ho rfl (wpAny_pure ?_)))
  rw [hx]
  show wpAny _ _ (setSeqItemAt l j v >>= _) _ _ s
  refine wpAny_bind (wpAny_setSeqItemAt ho rfl ?_)
  first
    | exact wpAny_bind (wpAny_pure (wpAny_pure ⟨.none, rfl, wpAny_pure (hQ _ y z)⟩))
    | exact wpAny_pure ⟨.none, rfl, wpAny_pure (hQ _ y z)⟩
theorem putItem {l : Addr} {xs : List Value} {k : Nat} {t : Tok} {v : Value} {Q : Unit → Shared → Prop} (hl : Ls s.heap l xs) (hn : k < xs.length) (hfit : xs.length < 2 ^ 22)
    (hQ : ∀ h', Ls h' l (xs.set k v) → Ext (At l) s.heap h' → Q () { s with heap := h' }) : wpAny (model prog w) A (setItem (.ref l) (.int k t) v) Q E s :=
  putItemI hl (by omega) (by omega) (by omega) (by simpa using hQ)
theorem lenL {l : Addr} {xs : List Value} {Q : Value → Shared → Prop} (hl : Ls s.heap l xs) (hfit : (xs.length : Int) < 2 ^ 63)
    (h : ∀ t tk, Q (.int xs.length t) { s with toks := tk }) : wpAny (model prog w) A (call (.builtin "len") [.ref l]) Q E s :=
  call_len_list hl.isList (by simpa using hfit) (by simpa using h _ _)
theorem truthL {l : Addr} {xs : List Value} {Q : Bool → Shared → Prop} (hl : Ls s.heap l xs) (hfit : (xs.length : Int) < 2 ^ 63)
    (h : ∀ tk, Q (!xs.isEmpty) { s with toks := tk }) : wpAny (model prog w) A (truthy (.ref l)) Q E s :=
  wpAny_truthy_list hl.isList (by simpa using hfit) (by simpa using h _)
theorem listMeth {name : Str} {id : String} {l : Addr} {xs : List Value} {pos : Pos} {args : List (Bool × Sem Value)} {Q : Value → Shared → Prop} (slot : Slot "list" name id)
    (ty : typeOf (.builtin id) = pure (.type "method_descriptor")) (hl : Ls s.heap l xs) (h : wpAny (model prog w) A (callWith pos (.builtin id) [.ref l] args []) Q E s) :
    MethodOnS prog w A E name (.ref l) pos args Q s :=
  ⟨"list", id, F.plainAttrs_list, slot, ty, hl.isList.typeIs, fun a e => by cases e; obtain ⟨n, q⟩ := hl; exact ⟨_, q, rfl⟩, h⟩
inductive App2 [Bs] (s₂ : Shared) (l : Addr) (v : Value) (Q : Value → Shared → Prop) : Prop
  | mk (xs : _) (e0 : Ls s₂.heap l xs) (e1 : xs.length < 2 ^ 22) (e2 : ∀ h', Ls h' l (xs ++ [v]) → Ext (At l) s₂.heap h' → Q .none { s₂ with heap := h' }) : App2 s₂ l v Q
inductive App1 [Bs] (ov : Value) (s₁ : Shared) (prog : Program) (w : World) (A : Around) (e : Expr) (env : Env) (Q : Value → Shared → Prop) (E : Value → Shared → Prop) : Prop
  | mk (l : _) (ys : _) (e0 : ov = .ref l) (e1 : Ls s₁.heap l ys) (e2 : wpAny (model prog w) A (eval e env) (fun v s₂ => App2 s₂ l v Q) E s₁) : App1 ov s₁ prog w A e env Q E
theorem append_ {o e : Expr} {apos cpos : Pos} {Q : Value → Shared → Prop}
    (h : wpAny (model prog w) A (eval o env) (fun ov s₁ => App1 ov s₁ prog w A e env Q E) E s)
    (hbase : attributeBase o (Str.ofString "append") env (eval o env) = eval o env := by rfl) (hs : starEach [e] env = [(false, eval e env)] := by rfl) (hline : (apos.endLine == cpos.line) = true := by rfl) :
    wpAny (model prog w) A (eval (.Call (.Attribute o (Str.ofString "append") apos) [e] [] cpos) env) Q E s := by
  refine Call_method1 hbase hs hline (wpAny_mono h (fun ov s₁ h₁ => ?_) fun _ _ x => x)
  obtain ⟨l, ys, rfl, hl, h₁⟩ := h₁
  refine listMeth F.slot_list_append type_list_append hl (P.append_list (wpAny_mono h₁ (fun v s₂ h₂ => ?_) fun _ _ x => x))
  obtain ⟨xs, hx, hlen, hq⟩ := h₂
  obtain ⟨y, z⟩ := hx.upd (f := fun a => a.push v) (ys := xs ++ [v]) (by simp)
  obtain ⟨n, ho⟩ := hx
  exact ⟨xs.toArray, n, by rw [List.size_toArray, sizeLine_eq]; omega, ho, hq _ y z⟩
inductive ApS2 [Bs] (s₂ : Shared) (l : Addr) (v : Value) (Q : Flow → Shared → Prop) : Prop
  | mk (xs : _) (e0 : Ls s₂.heap l xs) (e1 : xs.length < 2 ^ 22) (e2 : ∀ h', Ls h' l (xs ++ [v]) → Ext (At l) s₂.heap h' → Q .next { s₂ with heap := h' }) : ApS2 s₂ l v Q
inductive ApS1 [Bs] (ov : Value) (s₁ : Shared) (prog : Program) (w : World) (A : Around) (e : Expr) (env : Env) (Q : Flow → Shared → Prop) (E : Value → Shared → Prop) : Prop
  | mk (l : _) (ys : _) (e0 : ov = .ref l) (e1 : Ls s₁.heap l ys) (e2 : wpAny (model prog w) A (eval e env) (fun v s₂ => ApS2 s₂ l v Q) E s₁) : ApS1 ov s₁ prog w A e env Q E
theorem appendS {o e : Expr} {apos cpos pos : Pos} {Q : Flow → Shared → Prop}
    (h : wpAny (model prog w) A (eval o env) (fun ov s₁ => ApS1 ov s₁ prog w A e env Q E) E s)
    (hbase : attributeBase o (Str.ofString "append") env (eval o env) = eval o env := by rfl) (hs : starEach [e] env = [(false, eval e env)] := by rfl) (hline : (apos.endLine == cpos.line) = true := by rfl)
    (hi : interactive env = false := by rfl) :
    wpAny (model prog w) A (exec (.Expr (.Call (.Attribute o (Str.ofString "append") apos) [e] [] cpos) pos) env) Q E s :=
  wpAny_Expr (append_ (wpAny_mono h (fun ov s₁ q => by obtain ⟨l, ys, a, b, c⟩ := q; exact ⟨l, ys, a, b, wpAny_mono c (fun v s₂ q => by obtain ⟨xs, d, e, f⟩ := q; exact ⟨xs, d, e, f⟩) fun _ _ x => x⟩) fun _ _ x => x) hbase hs hline) hi (by rfl)
inductive Pop1 [Bs] (ov : Value) (s₁ : Shared) (Q : Value → Shared → Prop) : Prop
  | mk (l : _) (xs : _) (v : _) (e0 : ov = .ref l) (e1 : Ls s₁.heap l (xs ++ [v])) (e2 : xs.length < 2 ^ 22) (e3 : ∀ h', Ls h' l xs → Ext (At l) s₁.heap h' → Q v { s₁ with heap := h' }) : Pop1 ov s₁ Q
theorem pop_ {o : Expr} {apos cpos : Pos} {Q : Value → Shared → Prop}
    (h : wpAny (model prog w) A (eval o env) (fun ov s₁ => Pop1 ov s₁ Q) E s)
    (hbase : attributeBase o (Str.ofString "pop") env (eval o env) = eval o env := by rfl) (hline : (apos.endLine == cpos.line) = true := by rfl) :
    wpAny (model prog w) A (eval (.Call (.Attribute o (Str.ofString "pop") apos) [] [] cpos) env) Q E s := by
  refine Call_method0 hbase hline (wpAny_mono h (fun ov s₁ h₁ => ?_) fun _ _ x => x)
  obtain ⟨l, xs, v, rfl, hl, hlen, hq⟩ := h₁
  refine listMeth F.slot_list_pop F.type_list_pop hl ?_
  obtain ⟨y, z⟩ := hl.upd (f := fun a => a.eraseIdxIfInBounds ((xs ++ [v]).toArray.size - 1)) (ys := xs) (by
    apply Array.ext'
    simp [Array.eraseIdxIfInBounds, List.eraseIdx_append_of_length_le])
  obtain ⟨n, ho⟩ := hl
  exact P.pop_list ho (by simp) (hq _ y z) (by rw [List.size_toArray, sizeLine_eq]; simp; omega)
end
/-! calls -/
section
variable {prog : Program} {w : World} {A : Around} {E : Value → Shared → Prop} {s : Shared} {env : Env} {mg mb : Str → Option Value}
theorem useSpec {f : Value} {args : List Value} {Q : Value → Shared → Prop} {R : Result → Shared → Prop} (x : codeAny (model prog w) A (.call f ⟨args, []⟩) R s)
    (h : ∀ r s', R r s' → ∃ v, r = .ok (.ret v) ∧ Q v s') : wpAny (model prog w) A (call f args) Q E s :=
  wpAny_call (codeAny_mono x fun r s' q => by obtain ⟨v, rfl, hq⟩ := h r s' q; exact hq)
theorem callG {f : Addr} {o : Obj} {fd : FuncData} {x : Str} {e : Expr} {rest : List Expr} {p pos : Pos} {Q : Value → Shared → Prop} (G : Gd w mg mb s.heap)
    (hx : nsIn (heapK w.params) mainGlobals x = some (some (.ref f))) (ho : (heapK w.params).lookup f = some o) (hdat : o.data = .func fd)
    (h : wpAny (model prog w) A (spliced (backTo pos (starEach (e :: rest) env))) (fun vs s₁ => Gd w mg mb s₁.heap ∧ wpAny (model prog w) A (call (.ref f) vs) Q E s₁) E s)
    (hk : env.scope.kind = .function := by rfl) (hl : env.kindOf x = some .globalImplicit := by rfl) (hg : env.globals = mainGlobals := by rfl) (hd : (x == ("__debug__" : Str)) = false := by decide)
    (he : starEach (e :: rest) env = (false, eval e env) :: starEach rest env := by rfl) (hc : eval (.Call (.Name x p) (e :: rest) [] pos) env = (do callWith pos (← eval (.Name x p) env) [] (backTo pos (starEach (e :: rest) env)) (backToKw pos (keywordEach [] env))) := by rfl) :
    wpAny (model prog w) A (eval (.Call (.Name x p) (e :: rest) [] pos) env) Q E s :=
  Call_ (Gd.glob G hx (callWith_def hdat (wpAny_mono h (fun vs s₁ q => ⟨q.1.k f o ho, q.2⟩) fun _ _ x => x) he) hk hl hg hd) hc
theorem boot_len' : bootBuiltins (Str.ofString "len") = some (.builtin "len") := by kernel_rfl
inductive Len1 [Bs] (v : Value) (s₁ : Shared) (Q : Value → Shared → Prop) : Prop
  | mk (l : _) (xs : _) (e0 : v = .ref l) (e1 : Ls s₁.heap l xs) (e2 : xs.length < 2 ^ 22) (e3 : ∀ t tk, Q (.int xs.length t) { s₁ with toks := tk }) : Len1 v s₁ Q
theorem len_ {e : Expr} {p pos : Pos} {Q : Value → Shared → Prop} (G : Gd w mg mb s.heap)
    (h : wpAny (model prog w) A (eval e env) (fun v s₁ => Len1 v s₁ Q) E s)
    (hk : env.scope.kind = .function := by rfl) (hl : env.kindOf (Str.ofString "len") = some .globalImplicit := by rfl) (hg : env.globals = mainGlobals := by rfl) (hb : env.builtins = builtinsNs := by rfl)
    (he : starEach [e] env = [(false, eval e env)] := by rfl) (hc : eval (.Call (.Name (Str.ofString "len") p) [e] [] pos) env = (do callWith pos (← eval (.Name (Str.ofString "len") p) env) [] (backTo pos (starEach [e] env)) (backToKw pos (keywordEach [] env))) := by rfl) :
    wpAny (model prog w) A (eval (.Call (.Name (Str.ofString "len") p) [e] [] pos) env) Q E s := by
  refine Call_ (Gd.built G (by kernel_rfl) boot_len' (callWith_builtin1 (args_cons (wpAny_mono h (fun v s₁ h₁ => ?_) fun _ _ x => x) he) he) (by decide) hk hl hg hb) hc
  obtain ⟨l, xs, rfl, hx, hlen, hq⟩ := h₁
  exact args_nil (lenL hx (by omega) hq)
end
section
variable {prog : Program} {w : World} {A : Around} {E : Value → Shared → Prop} {s : Shared} {env : Env} {mg mb : Str → Option Value}
theorem boot_isinstance' : bootBuiltins (Str.ofString "isinstance") = some (.builtin "isinstance") := by kernel_rfl
theorem boot_str' : bootBuiltins (Str.ofString "str") = some (.type "str") := by kernel_rfl
theorem boot_bytes' : bootBuiltins (Str.ofString "bytes") = some (.type "bytes") := by kernel_rfl
theorem nsIn_isinstance (p : Params) : nsIn (heapK p) mainGlobals (Str.ofString "isinstance") = some none := by kernel_rfl
theorem nsIn_str (p : Params) : nsIn (heapK p) mainGlobals (Str.ofString "str") = some none := by kernel_rfl
theorem nsIn_bytes (p : Params) : nsIn (heapK p) mainGlobals (Str.ofString "bytes") = some none := by kernel_rfl
theorem isinst_ {e₁ e₂ : Expr} {p pos : Pos} {Q : Value → Shared → Prop} (G : Gd w mg mb s.heap)
    (h : wpAny (model prog w) A (eval e₁ env) (fun v s₁ => wpAny (model prog w) A (eval e₂ env) (fun c s₂ => wpAny (model prog w) A (call (.builtin "isinstance") [v, c]) Q E s₂) E s₁) E s)
    (hk : env.scope.kind = .function := by rfl) (hl : env.kindOf (Str.ofString "isinstance") = some .globalImplicit := by rfl) (hg : env.globals = mainGlobals := by rfl) (hb : env.builtins = builtinsNs := by rfl)
    (he : starEach [e₁, e₂] env = [(false, eval e₁ env), (false, eval e₂ env)] := by rfl) (he' : starEach [e₂] env = [(false, eval e₂ env)] := by rfl)
    (hc : eval (.Call (.Name (Str.ofString "isinstance") p) [e₁, e₂] [] pos) env = (do callWith pos (← eval (.Name (Str.ofString "isinstance") p) env) [] (backTo pos (starEach [e₁, e₂] env)) (backToKw pos (keywordEach [] env))) := by rfl) :
    wpAny (model prog w) A (eval (.Call (.Name (Str.ofString "isinstance") p) [e₁, e₂] [] pos) env) Q E s := by
  refine Call_ (Gd.built G (nsIn_isinstance _) boot_isinstance' ?_ (by decide) hk hl hg hb) hc
  refine callWith_builtin1 (args_cons (wpAny_mono h (fun v s₁ h₁ => ?_) fun _ _ x => x) (by rw [he, he'])) (by rw [he, he']) (by rw [he']; rfl)
  exact args_cons (wpAny_mono h₁ (fun c s₂ h₂ => args_nil h₂) fun _ _ x => x) (by rw [he']; rfl)
end
/-! ints -/
section
variable {prog : Program} {w : World} {A : Around} {E : Value → Shared → Prop} {s : Shared}
theorem lt_int' {a b : Int} {t u : Tok} {Q : Value → Shared → Prop} (h : Q (.bool (decide (a < b))) s) : wpAny (model prog w) A (richCompare .Lt (.int a t) (.int b u)) Q E s :=
  wpAny_richCompare_same (op := .Lt) (T := "int") (typeIs_int s a t) (typeIs_int s b u) slot_int_lt
    (wpAny_call_entry slot_int_lt (typeIs_int s a t) entry_int_lt
      (show wpAny _ _ (ret (.bool (decide (a < b)))) _ _ s from wpAny_pure ⟨_, rfl, by simp, h⟩) (args_int_lt _ _))
end
/- the post behind a variable: the terms stay small -/
theorem hide {α : Type} {prog : Program} {w : World} {A : Around} {c : Sem α} {Q : α → Shared → Prop} {E : Value → Shared → Prop} {s : Shared} (h : ∀ Q' : α → Shared → Prop, (∀ v s', Q v s' → Q' v s') → wpAny (model prog w) A c Q' E s) : wpAny (model prog w) A c Q E s := h Q fun _ _ q => q
theorem codeHide {prog : Program} {w : World} {A : Around} {c : Code} {R : Result → Shared → Prop} {s : Shared} (h : ∀ R' : Result → Shared → Prop, (∀ r s', R r s' → R' r s') → codeAny (model prog w) A c R' s) : codeAny (model prog w) A c R s := h R fun _ _ q => q
theorem hideB {α β : Type} {prog : Program} {w : World} {A A' : Around} {c : Sem α} {d : Sem β} {Q : β → Shared → Prop} {E E' : Value → Shared → Prop} {s : Shared} (h : ∀ Q' : β → Shared → Prop, (∀ v s', Q v s' → Q' v s') → wpAny (model prog w) A c (fun _ s₁ => wpAny (model prog w) A' d Q' E' s₁) E s) :
    wpAny (model prog w) A c (fun _ s₁ => wpAny (model prog w) A' d Q E' s₁) E s := h Q fun _ _ q => q
theorem hideW {α : Type} {prog : Program} {w : World} {A A' : Around} {c : Sem Bool} {d d' : Sem α} {Q Q₂ : α → Shared → Prop} {E E' : Value → Shared → Prop} {s : Shared}
    (h : ∀ Q' : α → Shared → Prop, (∀ v s', Q v s' → Q' v s') → ∀ Q₂' : α → Shared → Prop, (∀ v s', Q₂ v s' → Q₂' v s') → wpAny (model prog w) A c (fun b s₁ => if b = true then wpAny (model prog w) A' d Q' E' s₁ else wpAny (model prog w) A' d' Q₂' E' s₁) E s) :
    wpAny (model prog w) A c (fun b s₁ => if b = true then wpAny (model prog w) A' d Q E' s₁ else wpAny (model prog w) A' d' Q₂ E' s₁) E s := h Q (fun _ _ q => q) Q₂ fun _ _ q => q
end Mine
end
section
set_option maxHeartbeats 8000000
open PySem PySem.W PyProof.Rows PySem.Calls
namespace Mine
variable [Bs]
noncomputable abbrev It := Int × Int × Int
noncomputable def ltI (t u : It) : Bool := decide (t.1 < u.1) || (decide (t.1 = u.1) && (decide (t.2.1 < u.2.1) || (decide (t.2.1 = u.2.1) && decide (t.2.2 < u.2.2))))
noncomputable def Tp (h : Heap) (v : Value) (t : It) : Prop := ∃ a t1 t2 t3, v = .ref a ∧ h.IsTuple a #[.int t.1 t1, .int t.2.1 t2, .int t.2.2 t3]
theorem isTuple_ne {h : Heap} {a b : Addr} {xs : Array Value} {ys : List Value} (x : h.IsTuple a xs) (y : Ls h b ys) : a ≠ b := by
  rintro rfl
  obtain ⟨o, ho, hc, _⟩ := x
  obtain ⟨n, ho'⟩ := y
  rw [ho] at ho'
  cases ho'
  exact absurd hc (by show ¬ Value.type "list" = Value.type "tuple"; decide)
theorem IsTuple.ext {X : Addr → Prop} {h h' : Heap} {a : Addr} {xs : Array Value} (x : h.IsTuple a xs) (e : Ext X h h') (n : ¬ X a) : h'.IsTuple a xs :=
  let ⟨o, ho, hc, k, hd⟩ := x; ⟨o, e.get ho n (.inr fun _ _ z => nomatch (hd.symm.trans z)), hc, k, hd⟩
theorem Tp.ext {X : Addr → Prop} {h h' : Heap} {v : Value} {t : It} (x : Tp h v t) (e : Ext X h h') (n : ∀ a, X a → ∃ ys, Ls h a ys) : Tp h' v t := by
  obtain ⟨a, t1, t2, t3, rfl, hx⟩ := x
  exact ⟨a, t1, t2, t3, rfl, IsTuple.ext hx e fun q => by obtain ⟨ys, hy⟩ := n a q; exact isTuple_ne hx hy rfl⟩
section
variable {prog : Program} {w : World} {A : Around} {E : Value → Shared → Prop} {s : Shared}
theorem lt_tup {v u : Value} {t t' : It} {Q : Value → Shared → Prop} (hu : A.units < cLine) (hx : Tp s.heap v t) (hy : Tp s.heap u t') (h : Q (.bool (ltI t t')) s) :
    wpAny (model prog w) A (compareOp .Lt v u) Q E s := by
  obtain ⟨a, t1, t2, t3, rfl, ha⟩ := hx
  obtain ⟨b, u1, u2, u3, rfl, hb⟩ := hy
  show wpAny _ _ (richCompare .Lt (.ref a) (.ref b)) Q E s
  refine wpAny_richCompare_same_room (op := .Lt) (T := "tuple") ha.typeIs hb.typeIs F.slot_tuple_lt
    (wpAny_call_entry F.slot_tuple_lt ha.typeIs F.entry_tuple_lt ?_ (F.args_tuple_lt_2 _ _)) hu
  have hTb := hb.typeIs
  obtain ⟨oa, hoa, _, na, hda⟩ := ha
  obtain ⟨ob, hob, _, nb, hdb⟩ := hb
  show wpAny _ _ (isInstance (.ref b) (.type "tuple") >>= _) _ _ s
  refine wpAny_bind (wpAny_isInstance hTb isSubtype_tuple_tuple ?_)
  simp only [Bool.not_true, Bool.false_eq_true, if_false]
  refine wpAny_bind (wpAny_tupleItemsOf hoa hda ?_)
  refine wpAny_bind (wpAny_tupleItemsOf hob hdb ?_)
  obtain ⟨l, k, c⟩ := t
  obtain ⟨l', k', c'⟩ := t'
  simp only [ltI] at h
  refine wpAny_bind ?_
  simp only [List.zip_cons_cons, List.zip_nil_right, List.forIn_cons, List.forIn_nil]
  refine wpAny_bind (wpAny_bind (wpAny_eqBool_int ?_))
  by_cases h1 : l = l'
  · subst h1
    simp only [beq_self_eq_true, Bool.not_true, Bool.false_eq_true, if_false]
    refine wpAny_pure (wpAny_bind (wpAny_bind (wpAny_eqBool_int ?_)))
    by_cases h2 : k = k'
    · subst h2
      simp only [beq_self_eq_true, Bool.not_true, Bool.false_eq_true, if_false]
      refine wpAny_pure (wpAny_bind (wpAny_bind (wpAny_eqBool_int ?_)))
      by_cases h3 : c = c'
      · subst h3
        simp only [beq_self_eq_true, Bool.not_true, Bool.false_eq_true, if_false]
        refine wpAny_pure (wpAny_pure ?_)
        refine wpAny_pure ⟨_, rfl, by simp [Builtin.Tuple.tupleCompareSizes], ?_⟩
        simpa [Builtin.Tuple.tupleCompareSizes] using h
      · have e3 : (c == c') = false := beq_eq_false_iff_ne.mpr h3
        rw [e3]
        simp only [Bool.not_false, if_true]
        refine wpAny_bind (wpAny_rule (wpAny_bind (lt_int' (wpAny_bind (wpAny_pure (wpAny_pure (wpAny_pure (wpAny_pure ⟨_, rfl, by simp, ?_⟩))))))))
        simpa using h
    · have e2 : (k == k') = false := beq_eq_false_iff_ne.mpr h2
      rw [e2]
      simp only [Bool.not_false, if_true]
      refine wpAny_bind (wpAny_rule (wpAny_bind (lt_int' (wpAny_bind (wpAny_pure (wpAny_pure (wpAny_pure (wpAny_pure ⟨_, rfl, by simp, ?_⟩))))))))
      simpa [h2] using h
  · have e1 : (l == l') = false := beq_eq_false_iff_ne.mpr h1
    rw [e1]
    simp only [Bool.not_false, if_true]
    refine wpAny_bind (wpAny_rule (wpAny_bind (lt_int' (wpAny_bind (wpAny_pure (wpAny_pure (wpAny_pure (wpAny_pure ⟨_, rfl, by simp, ?_⟩))))))))
    simpa [h1] using h
end
/-! the sifting down -/
noncomputable def sift {α : Type} (lt : α → α → Bool) (start : Nat) (new : α) (xs : List α) (pos : Nat) : List α :=
  if h : start < pos then
    match xs[(pos - 1) / 2]? with
    | some p => if lt new p = true then sift lt start new (xs.set pos p) ((pos - 1) / 2) else xs.set pos new
    | none => xs.set pos new
  else xs.set pos new
termination_by pos
decreasing_by omega
noncomputable abbrev Cell := Value × It
noncomputable def ltC (a b : Cell) : Bool := ltI a.2 b.2
noncomputable abbrev vals (zs : List Cell) : List Value := zs.map (·.1)
theorem vals_at {zs : List Cell} {i : Nat} {z : Cell} (h : zs[i]? = some z) : (vals zs)[((i : Nat) : Int).toNat]? = some z.1 := by simp [vals, h]
theorem vals_set (zs : List Cell) (i : Nat) (z : Cell) : (vals zs).set i z.1 = vals (zs.set i z) := by simp [vals, List.map_set]
inductive DownP [Bs] (r : Result) (s' : Shared) (s : Shared) (l : Addr) (start : Nat) (z : Cell) (zs : List Cell) (pos : Nat) : Prop
  | mk (h' : _) (tk : _) (e0 : r = .ok (.ret .none)) (e1 : s' = { s with heap := h', toks := tk }) (e2 : Ext (At l) s.heap h') (e3 : Ls h' l (vals (sift ltC start z zs pos))) : DownP r s' s l start z zs pos
inductive DownI [Bs] (s' : Shared) (s : Shared) (l : Addr) (start : Nat) (t1 : Tok) (pos : Nat) (n : Nat) (z : Cell) (zs : List Cell) : Prop
  | mk (h' : _) (tk : _) (zs' : _) (tp : _) (lst : _) (e0 : s' = { s with heap := h', toks := tk }) (e1 : Loc h' s.heap.objs.size lst) (e2 : lst.lookup (Str.ofString "heap") = some (.ref l)) (e3 : lst.lookup (Str.ofString "startpos") = some (.int start t1)) (e4 : lst.lookup (Str.ofString "pos") = some (.int n tp)) (e5 : lst.lookup (Str.ofString "newitem") = some z.1) (e6 : Ext (At l) s.heap h') (e7 : Ls h' l (vals zs')) (e8 : zs'.length = zs.length) (e9 : n < zs.length) (e10 : (∀ z ∈ zs', Tp s.heap z.1 z.2)) (e11 : sift ltC start z zs' n = sift ltC start z zs pos) : DownI s' s l start t1 pos n z zs
theorem siftdown_spec {w : World} {mg mb : Str → Option Value} {A : Around} {s : Shared} {l : Addr} {zs : List Cell} {z : Cell} {start pos : Nat} {t1 t2 : Tok}
    (G : Gd w mg mb s.heap) (R : Rm A 3) (hl : Ls s.heap l (vals zs)) (hz : ∀ z ∈ zs, Tp s.heap z.1 z.2) (hlen : zs.length < 2 ^ 20) (hp : zs[pos]? = some z) :
    codeAny (model PG w) A (.call (.ref 57) ⟨[.ref l, .int start t1, .int pos t2], []⟩)
      (fun r s' => DownP r s' s l start z zs pos) s := by
  refine call_plain_ret R.d (G.k 57 _ rfl) rfl G.lim (codeRec_of G.k rfl) rfl (locs rfl) (fun h₁ F => ?_)
  refine hide fun Q0 hQ0 => ?_
  have hL : l ≠ s.heap.objs.size := Nat.ne_of_lt (hl.lt)
  have FL : Loc h₁ s.heap.objs.size [(Str.ofString "pos", .int pos t2), (Str.ofString "startpos", .int start t1), (Str.ofString "heap", .ref l)] := F.ns
  have E₁ : Ext Non s.heap h₁ := Ext.of F.keep _
  have hpl : pos < zs.length := (List.getElem?_eq_some_iff.mp hp).1
  clear F
  refine wpAny_execs_cons (wpAny_Assign_Name (Subscript_ (Loc.name FL rfl (Loc.name FL rfl (item (Ls.ext hl E₁ id) (by omega) (by omega) (vals_at hp) (Loc.store FL fun h₂ FL₂ E₂ => ?_))))))
  refine wpAny_execs_cons (while_ (fun n s' => DownI s' s l start t1 pos n z zs) ?_ pos ?_)
  · rintro n s' ⟨h', tk, zs', tp, lst, rfl, FL, l1, l2, l3, l4, e, hl', hle, hn, hz', hs⟩
    refine hideW fun Q1 hQ1 Q2 hQ2 => ?_
    refine wpAny_isTrue_Compare1 (Loc.name FL l3 (Loc.name FL l2 (P.gt_int (wpAny_truthy_bool ?_))))
    by_cases hlt : start < n
    · have hgt : ((n : Int) > (start : Int)) := by omega
      simp only [hgt, decide_true, if_true]
      have hpp : (n - 1) / 2 < zs'.length := by omega
      have ei : ((n : Int) - 1) / 2 = (((n - 1) / 2 : Nat) : Int) := by omega
      refine wpAny_execs_cons (wpAny_Assign_Name (wpAny_BinOp (wpAny_BinOp (Loc.name FL l3 (wpAny_Constant_int (P.sub_int (wpAny_Constant_int (wpAny_rshift1_int (by omega) (Loc.store FL fun h₃ FL₃ E₃ => ?_)))))))))
      rw [ei] at FL₃
      have hl₃ := Ls.ext hl' E₃ hL
      obtain ⟨p, hq⟩ : ∃ p, zs'[(n - 1) / 2]? = some p := ⟨_, List.getElem?_eq_getElem hpp⟩
      refine wpAny_execs_cons (wpAny_Assign_Name (Subscript_ (Loc.name FL₃ l1 (Loc.name FL₃ rfl (item hl₃ (by omega) (by omega) (vals_at hq) (Loc.store FL₃ fun h₄ FL₄ E₄ => ?_))))))
      have hl₄ := Ls.ext hl₃ E₄ hL
      have e₄ : Ext (At l) s.heap h₄ := (e.st E₃ (Nat.le_refl _)).st E₄ (Nat.le_refl _)
      have tpn : Tp h₄ z.1 z.2 := Tp.ext (hz z (List.mem_of_getElem? hp)) e₄ fun a q => ⟨_, q ▸ hl⟩
      have tpp : Tp h₄ p.1 p.2 := Tp.ext (hz' p (List.mem_of_getElem? hq)) e₄ fun a q => ⟨_, q ▸ hl⟩
      have unf : sift ltC start z zs' n = if ltC z p = true then sift ltC start z (zs'.set n p) ((n - 1) / 2) else zs'.set n z := by
        rw [sift, dif_pos hlt, hq]
      refine wpAny_execs_cons (wpAny_If (wpAny_isTrue_Compare1 (Loc.name FL₄ l4 (Loc.name FL₄ rfl (lt_tup (by have := R.u; have := R.units; show A.units + 3 < _; omega) tpn tpp (wpAny_truthy_bool ?_))))))
      cases hlt2 : ltC z p with
      | true =>
        have : ltI z.2 p.2 = true := hlt2
        simp only [this, if_true]
        refine wpAny_execs_cons (wpAny_Assign_Subscript (Loc.name FL₄ rfl (Loc.name FL₄ l1 (Loc.name FL₄ l3 (putItem hl₄ (by simp; omega) (by simp; omega) fun h₅ hl₅ E₅ => ?_)))))
        rw [vals_set] at hl₅
        have FL₅ := Loc.ext FL₄ E₅ (Ne.symm hL)
        refine wpAny_execs_cons (wpAny_Assign_Name (Loc.name FL₅ rfl (Loc.store FL₅ fun h₆ FL₆ E₆ => ?_)))
        refine wpAny_execs_cons (wpAny_Continue ?_)
        refine hQ1 _ _ ⟨(n - 1) / 2, by omega, h₆, _, zs'.set n p, _, _, rfl, FL₆, l1, l2, rfl, l4, (e₄.trans E₅).st E₆ (Nat.le_refl _), Ls.ext hl₅ E₆ hL, by simp [hle], by omega, fun y hy => ?_, ?_⟩
        · rcases List.mem_or_eq_of_mem_set hy with hy | rfl
          · exact hz' y hy
          · exact hz' y (List.mem_of_getElem? hq)
        · rw [← hs, unf, if_pos hlt2]
      | false =>
        have : ltI z.2 p.2 = false := hlt2
        simp only [this, Bool.false_eq_true, if_false]
        refine wpAny_execs_nil (wpAny_execs_cons (wpAny_Break (hQ1 _ _ ?_)))
        refine wpAny_execs_cons (wpAny_Assign_Subscript (Loc.name FL₄ l4 (Loc.name FL₄ l1 (Loc.name FL₄ l3 (putItem hl₄ (by simp; omega) (by simp; omega) fun h₅ hl₅ E₅ => ?_)))))
        rw [vals_set] at hl₅
        refine wpAny_execs_nil (hQ0 _ _ ⟨h₅, _, rfl, rfl, e₄.trans E₅, ?_⟩)
        rw [← hs, unf, if_neg (by rw [hlt2]; exact Bool.false_ne_true)]
        exact hl₅
    · have hgt : ¬ ((n : Int) > (start : Int)) := by omega
      simp only [hgt, decide_false, Bool.false_eq_true, if_false]
      refine wpAny_execs_nil (hQ2 _ _ ?_)
      have unf : sift ltC start z zs' n = zs'.set n z := by rw [sift, dif_neg hlt]
      refine wpAny_execs_cons (wpAny_Assign_Subscript (Loc.name FL l4 (Loc.name FL l1 (Loc.name FL l3 (putItem hl' (by simp; omega) (by simp; omega) fun h₅ hl₅ E₅ => ?_)))))
      rw [vals_set] at hl₅
      refine wpAny_execs_nil (hQ0 _ _ ⟨h₅, _, rfl, rfl, e.trans E₅, ?_⟩)
      rw [← hs, unf]
      exact hl₅
  · exact ⟨h₂, _, zs, t2, _, rfl, FL₂, rfl, rfl, rfl, rfl, (E₁.mono fun _ q => q.elim).st E₂ (Nat.le_refl _), Ls.ext (Ls.ext hl E₁ id) E₂ hL, rfl, hpl, hz, rfl⟩
/-! the sifting up -/
noncomputable def kid {α : Type} (lt : α → α → Bool) (xs : List α) (c : Nat) : Nat :=
  match xs[c]?, xs[c + 1]? with
  | some a, some b => if lt a b = true then c else c + 1
  | _, _ => c
omit [Bs] in
theorem kid_ge {α : Type} (lt : α → α → Bool) (xs : List α) (c : Nat) : c ≤ kid lt xs c := by
  unfold kid
  split
  · split <;> omega
  · exact Nat.le_refl _
omit [Bs] in
theorem kid_lt {α : Type} (lt : α → α → Bool) (xs : List α) (c : Nat) (h : c < xs.length) : kid lt xs c < xs.length := by
  unfold kid
  split
  · rename_i a b ha hb
    have := (List.getElem?_eq_some_iff.mp hb).1
    split <;> omega
  · exact h
noncomputable def bub {α : Type} (lt : α → α → Bool) (xs : List α) (pos : Nat) : List α × Nat :=
  if h : 2 * pos + 1 < xs.length then
    match xs[kid lt xs (2 * pos + 1)]? with
    | some c => bub lt (xs.set pos c) (kid lt xs (2 * pos + 1))
    | none => (xs, pos)
  else (xs, pos)
termination_by xs.length - pos
decreasing_by
  have := kid_ge lt xs (2 * pos + 1)
  rw [List.length_set]
  omega
omit [Bs] in
theorem bub_length {α : Type} (lt : α → α → Bool) (xs : List α) (pos : Nat) (hp : pos < xs.length) : (bub lt xs pos).1.length = xs.length ∧ (bub lt xs pos).2 < xs.length := by
  induction xs, pos using bub.induct lt with
  | case1 xs pos h c hc ih =>
    rw [bub, dif_pos h, hc]
    simp only
    have := ih (by rw [List.length_set]; exact kid_lt lt xs _ h)
    rw [List.length_set] at this
    exact this
  | case2 xs pos h hc => rw [bub, dif_pos h, hc]; exact ⟨rfl, hp⟩
  | case3 xs pos h => rw [bub, dif_neg h]; exact ⟨rfl, hp⟩
noncomputable def siftup {α : Type} (lt : α → α → Bool) (xs : List α) (pos : Nat) (new : α) : List α :=
  sift lt pos new ((bub lt xs pos).1.set (bub lt xs pos).2 new) (bub lt xs pos).2
inductive UpP [Bs] (r : Result) (s' : Shared) (s : Shared) (l : Addr) (zs : List Cell) (pos : Nat) (z : Cell) : Prop
  | mk (h' : _) (tk : _) (e0 : r = .ok (.ret .none)) (e1 : s' = { s with heap := h', toks := tk }) (e2 : Ext (At l) s.heap h') (e3 : Ls h' l (vals (siftup ltC zs pos z))) : UpP r s' s l zs pos z
inductive UpI [Bs] (s' : Shared) (s : Shared) (l : Addr) (zs : List Cell) (t : Tok) (pos : Nat) (t2 : Tok) (z : Cell) (n : Nat) : Prop
  | mk (h' : _) (tk : _) (zs' : _) (p : _) (tp : _) (tc : _) (lst : _) (e0 : s' = { s with heap := h', toks := tk }) (e1 : Loc h' s.heap.objs.size lst) (e2 : lst.lookup (Str.ofString "heap") = some (.ref l)) (e3 : lst.lookup (Str.ofString "endpos") = some (.int zs.length t)) (e4 : lst.lookup (Str.ofString "startpos") = some (.int pos t2)) (e5 : lst.lookup (Str.ofString "newitem") = some z.1) (e6 : lst.lookup (Str.ofString "pos") = some (.int (p : Nat) tp)) (e7 : lst.lookup (Str.ofString "childpos") = some (.int (2 * (p : Int) + 1) tc)) (e8 : Ext (At l) s.heap h') (e9 : Ls h' l (vals zs')) (e10 : zs'.length = zs.length) (e11 : p < zs.length) (e12 : n = zs.length - p) (e13 : (∀ z ∈ zs', Tp s.heap z.1 z.2)) (e14 : bub ltC zs' p = bub ltC zs pos) : UpI s' s l zs t pos t2 z n
inductive UpK [Bs] (s₂ : Shared) (s : Shared) (l : Addr) (zs : List Cell) (t : Tok) (pos : Nat) (t2 : Tok) (z : Cell) (p : Nat) (tp : Tok) (zs' : List Cell) : Prop
  | mk (h' : _) (tk : _) (tc : _) (lst : _) (e0 : s₂ = { s with heap := h', toks := tk }) (e1 : Loc h' s.heap.objs.size lst) (e2 : lst.lookup (Str.ofString "heap") = some (.ref l)) (e3 : lst.lookup (Str.ofString "endpos") = some (.int zs.length t)) (e4 : lst.lookup (Str.ofString "startpos") = some (.int pos t2)) (e5 : lst.lookup (Str.ofString "newitem") = some z.1) (e6 : lst.lookup (Str.ofString "pos") = some (.int (p : Nat) tp)) (e7 : lst.lookup (Str.ofString "childpos") = some (.int (kid ltC zs' (2 * p + 1) : Nat) tc)) (e8 : Ext (At l) s.heap h') (e9 : Ls h' l (vals zs')) : UpK s₂ s l zs t pos t2 z p tp zs'
theorem siftup_spec {w : World} {mg mb : Str → Option Value} {A : Around} {s : Shared} {l : Addr} {zs : List Cell} {z : Cell} {pos : Nat} {t2 : Tok}
    (G : Gd w mg mb s.heap) (R : Rm A 5) (hhi : Hi l) (hl : Ls s.heap l (vals zs)) (hz : ∀ z ∈ zs, Tp s.heap z.1 z.2) (hlen : zs.length < 2 ^ 20) (hp : zs[pos]? = some z) :
    codeAny (model PG w) A (.call (.ref 64) ⟨[.ref l, .int pos t2], []⟩)
      (fun r s' => UpP r s' s l zs pos z) s := by
  refine call_plain_ret R.d (G.k 64 _ rfl) rfl G.lim (codeRec_of G.k rfl) rfl (locs rfl) (fun h₁ F => ?_)
  refine hide fun Q0 hQ0 => ?_
  have hL : l ≠ s.heap.objs.size := Nat.ne_of_lt hl.lt
  have FL : Loc h₁ s.heap.objs.size [(Str.ofString "pos", .int pos t2), (Str.ofString "heap", .ref l)] := F.ns
  have E₁ : Ext Non s.heap h₁ := Ext.of F.keep _
  have hpl : pos < zs.length := (List.getElem?_eq_some_iff.mp hp).1
  have hl₁ : Ls h₁ l (vals zs) := Ls.ext hl E₁ id
  have G₁ : Gd w mg mb h₁ := G.ext E₁ fun _ q => q.elim
  clear F
  refine wpAny_execs_cons (wpAny_Assign_Name (len_ G₁ (Loc.name FL rfl ⟨l, _, rfl, hl₁, by simp; omega, fun t tk => Loc.store FL fun h₂ FL₂ E₂ => ?_⟩)))
  refine wpAny_execs_cons (wpAny_Assign_Name (Loc.name FL₂ rfl (Loc.store FL₂ fun h₃ FL₃ E₃ => ?_)))
  have hl₃ : Ls h₃ l (vals zs) := Ls.ext (Ls.ext hl₁ E₂ hL) E₃ hL
  refine wpAny_execs_cons (wpAny_Assign_Name (Subscript_ (Loc.name FL₃ rfl (Loc.name FL₃ rfl (item hl₃ (by omega) (by omega) (vals_at hp) (Loc.store FL₃ fun h₄ FL₄ E₄ => ?_))))))
  refine wpAny_execs_cons (wpAny_Assign_Name (wpAny_BinOp (wpAny_BinOp (wpAny_Constant_int (Loc.name FL₄ rfl (P.mul_int (wpAny_Constant_int (P.add_int (Loc.store FL₄ fun h₅ FL₅ E₅ => ?_)))))))))
  have pw : ∀ {a : Addr} {o : Obj}, s.heap.get? a = some o → a ≠ s.heap.objs.size := fun q => Nat.ne_of_lt (Heap.lt_size q)
  refine wpAny_execs_cons (while_ (fun n s' => UpI s' s l zs t pos t2 z n) ?_ (zs.length - pos) ?_)
  · rintro n s' ⟨h', tk, zs', p, tp, tc, lst, rfl, FL, l1, l2, l3, l4, l5, l6, e, hl', hle, hn, rfl, hz', hs⟩
    refine hideW fun Q1 hQ1 Q2 hQ2 => ?_
    refine wpAny_isTrue_Compare1 (Loc.name FL l6 (Loc.name FL l2 (P.lt_int (wpAny_truthy_bool ?_))))
    by_cases hlt : 2 * p + 1 < zs'.length
    · have hgt : (2 * (p : Int) + 1 < (zs.length : Int)) := by omega
      simp only [hgt, decide_true, if_true]
      have hk1 := kid_ge ltC zs' (2 * p + 1)
      have hk2 := kid_lt ltC zs' (2 * p + 1) hlt
      obtain ⟨c, hc⟩ : ∃ c, zs'[kid ltC zs' (2 * p + 1)]? = some c := ⟨_, List.getElem?_eq_getElem hk2⟩
      refine wpAny_execs_cons (wpAny_Assign_Name (wpAny_BinOp (Loc.name FL l6 (wpAny_Constant_int (P.add_int (Loc.store FL fun h₃ FL₃ E₃ => ?_))))))
      have hl₃ := Ls.ext hl' E₃ hL
      have e₃ : Ext (At l) s.heap h₃ := e.st E₃ (Nat.le_refl _)
      refine wpAny_execs_cons (wpAny_mono (Q := fun f s₂ => f = .next ∧ UpK s₂ s l zs t pos t2 z p tp zs') (wpAny_If (wpAny_isTrue_BoolOp (wpAny_allTrue_And_cons ?_))) ?_ fun _ _ x => x)
      · refine wpAny_isTrue_Compare1 (Loc.name FL₃ rfl (Loc.name FL₃ l2 (P.lt_int (wpAny_truthy_bool ?_))))
        obtain ⟨a, ha⟩ : ∃ a, zs'[2 * p + 1]? = some a := ⟨_, List.getElem?_eq_getElem hlt⟩
        have ia : (2 * (p : Int) + 1) = ((2 * p + 1 : Nat) : Int) := by omega
        by_cases hr : 2 * p + 1 + 1 < zs'.length
        · have hr' : (2 * (p : Int) + 1 + 1 < (zs.length : Int)) := by omega
          simp only [hr', decide_true, if_true]
          obtain ⟨b, hb⟩ : ∃ b, zs'[2 * p + 1 + 1]? = some b := ⟨_, List.getElem?_eq_getElem hr⟩
          have ib : (2 * (p : Int) + 1 + 1) = ((2 * p + 1 + 1 : Nat) : Int) := by omega
          have ta : Tp h₃ a.1 a.2 := Tp.ext (hz' a (List.mem_of_getElem? ha)) e₃ fun a q => ⟨_, q ▸ hl⟩
          have tb : Tp h₃ b.1 b.2 := Tp.ext (hz' b (List.mem_of_getElem? hb)) e₃ fun a q => ⟨_, q ▸ hl⟩
          refine wpAny_allTrue_And_cons (wpAny_isTrue_Not (wpAny_isTrue_Compare1 (Subscript_ (Loc.name FL₃ l1 (Loc.name FL₃ l6 (item hl₃ (by omega) (by omega) (by rw [ia]; exact vals_at ha) (Subscript_ (Loc.name FL₃ l1 (Loc.name FL₃ rfl (item hl₃ (by omega) (by omega) (by rw [ib]; exact vals_at hb) (lt_tup (by have := R.units; show A.units + 3 < _; omega) ta tb (wpAny_truthy_bool ?_)))))))))))) 
          have ek : kid ltC zs' (2 * p + 1) = if ltC a b = true then 2 * p + 1 else 2 * p + 1 + 1 := by unfold kid; rw [ha, hb]
          cases hab : ltC a b with
          | true =>
            have : ltI a.2 b.2 = true := hab
            simp only [this, Bool.not_true, Bool.false_eq_true, if_false]
            exact wpAny_execs_nil ⟨rfl, h₃, _, tc, _, rfl, FL₃, l1, l2, l3, l4, l5, (by rw [ek, if_pos hab, ← ia]; exact l6), e₃, hl₃⟩
          | false =>
            have : ltI a.2 b.2 = false := hab
            simp only [this, Bool.not_false, if_true]
            refine wpAny_allTrue_And_nil ?_
            simp only [if_true]
            refine wpAny_execs_cons (wpAny_Assign_Name (Loc.name FL₃ rfl (Loc.store FL₃ fun h₄ FL₄ E₄ => ?_)))
            have ek' := ek
            rw [if_neg (by rw [hab]; exact Bool.false_ne_true)] at ek'
            rw [ib, ← ek'] at FL₄
            exact wpAny_execs_nil ⟨rfl, h₄, _, _, _, rfl, FL₄, l1, l2, l3, l4, l5, rfl, e₃.st E₄ (Nat.le_refl _), Ls.ext hl₃ E₄ hL⟩
        · have hr' : ¬ (2 * (p : Int) + 1 + 1 < (zs.length : Int)) := by omega
          simp only [hr', decide_false, Bool.false_eq_true, if_false]
          have ek : kid ltC zs' (2 * p + 1) = 2 * p + 1 := by
            unfold kid
            rw [ha, List.getElem?_eq_none (by omega : zs'.length ≤ 2 * p + 1 + 1)]
          exact wpAny_execs_nil ⟨rfl, h₃, _, tc, _, rfl, FL₃, l1, l2, l3, l4, l5, (by rw [ek, ← ia]; exact l6), e₃, hl₃⟩
      · rintro f s₂ ⟨rfl, h', tk, tc, lst, rfl, FL, l1, l2, l3, l4, l5, l6, e, hl'⟩
        refine wpAny_execs_cons (wpAny_Assign_Subscript (Subscript_ (Loc.name FL l1 (Loc.name FL l6 (item hl' (by omega) (by omega) (vals_at hc) (Loc.name FL l1 (Loc.name FL l5 (putItem hl' (by simp; omega) (by simp; omega) fun h₅ hl₅ E₅ => ?_))))))))
        rw [vals_set] at hl₅
        have FL₅ := Loc.ext FL E₅ (Ne.symm hL)
        refine wpAny_execs_cons (wpAny_Assign_Name (Loc.name FL₅ l6 (Loc.store FL₅ fun h₆ FL₆ E₆ => ?_)))
        refine wpAny_execs_cons (wpAny_Assign_Name (wpAny_BinOp (wpAny_BinOp (wpAny_Constant_int (Loc.name FL₆ rfl (P.mul_int (wpAny_Constant_int (P.add_int (Loc.store FL₆ fun h₇ FL₇ E₇ => ?_)))))))))
        refine wpAny_execs_nil (hQ1 _ _ ⟨zs.length - kid ltC zs' (2 * p + 1), by omega, h₇, _, zs'.set p c, kid ltC zs' (2 * p + 1), _, _, _, rfl, FL₇, l1, l2, l3, l4, rfl, rfl,
          ((e.trans E₅).st E₆ (Nat.le_refl _)).st E₇ (Nat.le_refl _), Ls.ext (Ls.ext hl₅ E₆ hL) E₇ hL, by simp [hle], by omega, rfl, fun y hy => ?_, ?_⟩)
        · rcases List.mem_or_eq_of_mem_set hy with hy | rfl
          · exact hz' y hy
          · exact hz' y (List.mem_of_getElem? hc)
        · rw [← hs]
          conv => rhs; rw [bub, dif_pos hlt, hc]
    · have hgt : ¬ (2 * (p : Int) + 1 < (zs.length : Int)) := by omega
      simp only [hgt, decide_false, Bool.false_eq_true, if_false]
      have eb : bub ltC zs pos = (zs', p) := by rw [← hs, bub, dif_neg hlt]
      refine wpAny_execs_nil (hQ2 _ _ ?_)
      refine wpAny_execs_cons (wpAny_Assign_Subscript (Loc.name FL l4 (Loc.name FL l1 (Loc.name FL l5 (putItem hl' (by simp; omega) (by simp; omega) fun h₅ hl₅ E₅ => ?_)))))
      rw [vals_set] at hl₅
      have FL₅ := Loc.ext FL E₅ (Ne.symm hL)
      have e₅ : Ext (At l) s.heap h₅ := e.trans E₅
      have G₅ : Gd w mg mb h₅ := G.ext e₅ fun a q => .inl (q ▸ hhi)
      refine wpAny_execs_cons (wpAny_Expr (callG (f := 57) G₅ (by kernel_rfl) rfl rfl (args_cons (Loc.name FL₅ l1 (args_cons (Loc.name FL₅ l3 (args_cons (Loc.name FL₅ l5 (args_nil ⟨G₅, useSpec (siftdown_spec (z := z) G₅ ((R.deeper _).le (by omega)) hl₅ ?_ ?_ ?_) ?_⟩)))))))))
      · intro y hy
        refine Tp.ext ?_ e₅ fun a q => ⟨_, q ▸ hl⟩
        rcases List.mem_or_eq_of_mem_set hy with hy | rfl
        · exact hz' y hy
        · exact hz y (List.mem_of_getElem? hp)
      · rw [List.length_set]; omega
      · exact List.getElem?_set_self (by omega)
      · rintro r s' ⟨h'', tk', rfl, rfl, x, y⟩
        refine ⟨_, rfl, wpAny_execs_nil (hQ0 _ _ ⟨h'', _, rfl, rfl, e₅.trans x, ?_⟩)⟩
        unfold siftup
        rw [eb]; exact y
  · exact ⟨h₅, _, zs, pos, t2, _, _, rfl, FL₅, rfl, (by show some (Value.int ((vals zs).length : Int) t) = _; rw [List.length_map]), rfl, rfl, rfl, rfl, ((((E₁.mono fun _ q => q.elim).st E₂ (Nat.le_refl _)).st E₃ (Nat.le_refl _)).st E₄ (Nat.le_refl _)).st E₅ (Nat.le_refl _), Ls.ext (Ls.ext hl₃ E₄ hL) E₅ hL, rfl, hpl, rfl, hz, rfl⟩
noncomputable def hpush {α : Type} (lt : α → α → Bool) (zs : List α) (z : α) : List α := sift lt 0 z (zs ++ [z]) zs.length
noncomputable def hpop {α : Type} (lt : α → α → Bool) (ys : List α) (last : α) : α × List α := match ys with
  | [] => (last, [])
  | y :: r => (y, siftup lt (last :: r) 0 last)
inductive PushP [Bs] (r : Result) (s' : Shared) (s : Shared) (l : Addr) (zs : List Cell) (z : Cell) : Prop
  | mk (h' : _) (tk : _) (e0 : r = .ok (.ret .none)) (e1 : s' = { s with heap := h', toks := tk }) (e2 : Ext (At l) s.heap h') (e3 : Ls h' l (vals (hpush ltC zs z))) : PushP r s' s l zs z
theorem heappush_spec {w : World} {mg mb : Str → Option Value} {A : Around} {s : Shared} {l : Addr} {zs : List Cell} {z : Cell}
    (G : Gd w mg mb s.heap) (R : Rm A 7) (hhi : Hi l) (hl : Ls s.heap l (vals zs)) (hz : ∀ z ∈ zs, Tp s.heap z.1 z.2) (hlen : zs.length + 1 < 2 ^ 20) (hp : Tp s.heap z.1 z.2) :
    codeAny (model PG w) A (.call (.ref 43) ⟨[.ref l, z.1], []⟩)
      (fun r s' => PushP r s' s l zs z) s := by
  refine call_plain_ret R.d (G.k 43 _ rfl) rfl G.lim (codeRec_of G.k rfl) rfl (locs rfl) (fun h₁ F => ?_)
  have hL : l ≠ s.heap.objs.size := Nat.ne_of_lt hl.lt
  have FL : Loc h₁ s.heap.objs.size [(Str.ofString "item", z.1), (Str.ofString "heap", .ref l)] := F.ns
  have E₁ : Ext Non s.heap h₁ := Ext.of F.keep _
  have hl₁ : Ls h₁ l (vals zs) := Ls.ext hl E₁ id
  clear F
  refine wpAny_execs_cons (appendS (Loc.name FL rfl ⟨l, _, rfl, hl₁, Loc.name FL rfl ⟨_, hl₁, by simp; omega, fun h₂ hl₂ E₂ => ?_⟩⟩))
  have ev : vals zs ++ [z.1] = vals (zs ++ [z]) := by simp [vals]
  rw [ev] at hl₂
  have FL₂ := Loc.ext FL E₂ (Ne.symm hL)
  have e₂ : Ext (At l) s.heap h₂ := (E₁.mono fun _ q => q.elim).trans E₂
  have G₂ : Gd w mg mb h₂ := G.ext e₂ fun a q => .inl (q ▸ hhi)
  refine wpAny_execs_cons (wpAny_Expr (callG (f := 57) G₂ (by kernel_rfl) rfl rfl (args_cons (Loc.name FL₂ rfl (args_cons (wpAny_Constant_int (args_cons (wpAny_BinOp (len_ (s := { s with heap := h₂, toks := _ }) G₂ (Loc.name FL₂ rfl ⟨l, _, rfl, hl₂, by simp; omega, fun t tk => wpAny_Constant_int (P.sub_int (args_nil ?_))⟩))))))))))
  have ei : ((vals (zs ++ [z])).length : Int) - 1 = ((zs.length : Nat) : Int) := by simp
  rw [ei]
  refine ⟨G₂, useSpec (siftdown_spec (zs := zs ++ [z]) (z := z) (start := 0) G₂ ((R.deeper _).le (by omega)) hl₂ ?_ (by simp; omega) (by simp)) ?_⟩
  · intro y hy
    refine Tp.ext ?_ e₂ fun a q => ⟨_, q ▸ hl⟩
    rcases List.mem_append.mp hy with hy | hy
    · exact hz y hy
    · rw [List.mem_singleton.mp hy]; exact hp
  · rintro r s' ⟨h'', tk', rfl, rfl, x, y⟩
    exact ⟨_, rfl, wpAny_execs_nil ⟨h'', _, rfl, rfl, e₂.trans x, y⟩⟩
inductive PopP [Bs] (r : Result) (ys : List Cell) (z : Cell) (s' : Shared) (s : Shared) (l : Addr) : Prop
  | mk (h' : _) (tk : _) (e0 : r = .ok (.ret (hpop ltC ys z).1.1)) (e1 : s' = { s with heap := h', toks := tk }) (e2 : Ext (At l) s.heap h') (e3 : Ls h' l (vals (hpop ltC ys z).2)) : PopP r ys z s' s l
theorem heappop_spec {w : World} {mg mb : Str → Option Value} {A : Around} {s : Shared} {l : Addr} {ys : List Cell} {z : Cell}
    (G : Gd w mg mb s.heap) (R : Rm A 7) (hhi : Hi l) (hl : Ls s.heap l (vals (ys ++ [z]))) (hz : ∀ y ∈ ys ++ [z], Tp s.heap y.1 y.2) (hlen : ys.length + 1 < 2 ^ 20) :
    codeAny (model PG w) A (.call (.ref 50) ⟨[.ref l], []⟩)
      (fun r s' => PopP r ys z s' s l) s := by
  refine call_plain_ret R.d (G.k 50 _ rfl) rfl G.lim (codeRec_of G.k rfl) rfl (locs rfl) (fun h₁ F => ?_)
  have hL : l ≠ s.heap.objs.size := Nat.ne_of_lt hl.lt
  have FL : Loc h₁ s.heap.objs.size [(Str.ofString "heap", .ref l)] := F.ns
  have E₁ : Ext Non s.heap h₁ := Ext.of F.keep _
  have ev : vals (ys ++ [z]) = vals ys ++ [z.1] := by simp [vals]
  have hl₁ : Ls h₁ l (vals ys ++ [z.1]) := ev ▸ Ls.ext hl E₁ id
  clear F
  refine wpAny_execs_cons (wpAny_Assign_Name (pop_ (Loc.name FL rfl ⟨l, _, _, rfl, hl₁, by simp; omega, fun h₂ hl₂ E₂ => ?_⟩)))
  have FL₂ := Loc.ext FL E₂ (Ne.symm hL)
  refine Loc.store FL₂ fun h₃ FL₃ E₃ => ?_
  have hl₃ := Ls.ext hl₂ E₃ hL
  have pw : ∀ {a : Addr} {o : Obj}, s.heap.get? a = some o → a ≠ s.heap.objs.size := fun q => Nat.ne_of_lt (Heap.lt_size q)
  have e₃ : Ext (At l) s.heap h₃ := ((E₁.mono fun _ q => q.elim).trans E₂).st E₃ (Nat.le_refl _)
  refine wpAny_execs_cons (wpAny_If (wpAny_isTrue_value (Loc.name FL₃ rfl (truthL hl₃ (by simp; omega) fun tk => ?_))))
  cases ys with
  | nil =>
    simp only [vals, List.map_nil, List.isEmpty_nil, Bool.not_true, Bool.false_eq_true, if_false]
    refine wpAny_execs_nil (wpAny_execs_cons (wpAny_Return_some (Loc.name FL₃ rfl ⟨h₃, _, rfl, rfl, e₃, ?_⟩)))
    exact hl₃
  | cons y r =>
    simp only [vals, List.map_cons, List.isEmpty_cons, Bool.not_false, if_true]
    refine wpAny_execs_cons (wpAny_Assign_Name (Subscript_ (Loc.name FL₃ rfl (wpAny_Constant_int (item hl₃ (by decide) (by decide) rfl (Loc.store FL₃ fun h₄ FL₄ E₄ => ?_))))))
    have hl₄ := Ls.ext hl₃ E₄ hL
    refine wpAny_execs_cons (wpAny_Assign_Subscript (Loc.name FL₄ rfl (Loc.name FL₄ rfl (wpAny_Constant_int (putItem (k := 0) hl₄ (by simp) (by simp at hlen ⊢; omega) fun h₅ hl₅ E₅ => ?_)))))
    have ev' : (vals (y :: r)).set 0 z.1 = vals (z :: r) := by simp [vals]
    rw [ev'] at hl₅
    have FL₅ := Loc.ext FL₄ E₅ (Ne.symm hL)
    have e₅ : Ext (At l) s.heap h₅ := (e₃.st E₄ (Nat.le_refl _)).trans E₅
    have G₅ : Gd w mg mb h₅ := G.ext e₅ fun a q => .inl (q ▸ hhi)
    refine wpAny_execs_cons (wpAny_Expr (callG (f := 64) G₅ (by kernel_rfl) rfl rfl (args_cons (Loc.name FL₅ rfl (args_cons (wpAny_Constant_int (args_nil ⟨G₅, useSpec (siftup_spec (pos := 0) (z := z) G₅ ((R.deeper _).le (by omega)) hhi hl₅ ?_ (by simp at hlen ⊢; omega) rfl) ?_⟩)))))))
    · intro x hx
      refine Tp.ext (hz x ?_) e₅ fun a q => ⟨_, q ▸ hl⟩
      rcases List.mem_cons.mp hx with rfl | hx
      · simp
      · simp [hx]
    · rintro r' s' ⟨h'', tk', rfl, rfl, x, y'⟩
      have FL₆ := Loc.ext FL₅ x (Ne.symm hL)
      refine ⟨_, rfl, wpAny_execs_cons (wpAny_Return_some (Loc.name FL₆ rfl ⟨h'', _, rfl, rfl, e₅.trans x, y'⟩))⟩
end Mine
end
section
set_option maxHeartbeats 8000000
open PySem PySem.W PyProof.Rows PySem.Calls PySem.Builtin PySem.Builtin._codecs
namespace Mine
variable [Bs]
variable {M : Model} {A : Around} {E : Value → Shared → Prop} {s : Shared}
noncomputable def octs (x : Str) : Array UInt8 := x.cps.map Nat.toUInt8
theorem fold_octs (l : List Nat) : ∀ acc : Array UInt8, l.toArray.foldl (fun acc y => acc ++ (asciiCodec.bytesOf y).toArray) acc = acc ++ (l.map Nat.toUInt8).toArray := by
  induction l with
  | nil => intro acc; simp
  | cons c r ih =>
    intro acc
    have := ih (acc ++ (asciiCodec.bytesOf c).toArray)
    simp only [List.foldl_toArray', List.foldl_cons] at this ⊢
    rw [this]
    apply Array.ext'
    simp [asciiCodec]
theorem enc_ok {id : String} {self : Value} {x : Str} {Q : Array UInt8 → Shared → Prop} (hx : ∀ c ∈ x.cps.toList, c < 128) (hl : x.cps.size < 1000) (h : Q (octs x) s) :
    wpAny M A (encodeNarrow id asciiCodec none self x) Q E s := by
  unfold encodeNarrow
  refine wpAny_bind ?_
  rw [Std.Legacy.Range.forIn_eq_forIn_range']
  have hn : Std.Legacy.Range.size [:x.length] = x.cps.size := by simp [Std.Legacy.Range.size, Str.length]
  rw [hn]
  refine wpAny_forIn_list _ (fun rest (st : Nat × Array UInt8 × Faults) s' => s' = s ∧ ((st = (0, #[], {}) ∧ rest.length = x.cps.size) ∨ st = (x.cps.size, octs x, {}))) _ ?_ ?_ _ _ ⟨rfl, .inl ⟨rfl, by simp⟩⟩
  · rintro i rest st s' ⟨rfl, ⟨rfl, hr⟩ | rfl⟩
    · have hpos : 0 < x.cps.size := by simp at hr; omega
      have h0 : x.cps[0]? = some x.cps[0] := by simp [hpos]
      have hb : asciiCodec.bad x.cps[0] = false := by
        have := hx x.cps[0] (by simp)
        simp [asciiCodec]; omega
      have he : x.cps.extract 0 x.cps.size = x.cps := by simp
      have hf : Array.findIdx? asciiCodec.bad x.cps = none := by
        rw [Array.findIdx?_eq_none_iff]
        intro c hc
        have := hx c (by simpa using hc)
        simp [asciiCodec]; omega
      have hfold : Array.foldl (fun acc y => acc ++ (asciiCodec.bytesOf y).toArray) #[] x.cps = octs x := by
        have := fold_octs x.cps.toList #[]
        simp only [Array.toArray_toList] at this
        rw [this]
        apply Array.ext'
        simp [octs]
      simp only [List.size_toArray, List.length_nil, gt_iff_lt, Nat.not_lt_zero, if_false, h0, hb, Bool.not_false, if_true, he, hf, Option.getD_none, hfold, Nat.zero_add]
      exact wpAny_pure ⟨rfl, .inr rfl⟩
    · have h0 : x.cps[x.cps.size]? = none := by simp
      have hz : ¬ (octs x).size > sizeLine := by rw [sizeLine_eq]; simp [octs]; omega
      simp only [hz, if_false, h0]
      exact wpAny_pure (wpAny_pure h)
  · rintro st s' ⟨rfl, ⟨rfl, hr⟩ | rfl⟩
    · have : octs x = #[] := by
        apply Array.eq_empty_of_size_eq_zero
        simp [octs]
        simpa using hr.symm
      exact wpAny_pure (this ▸ h)
    · exact wpAny_pure h
theorem strict_is : ((none : Option Str).getD (Str.ofString "strict")).toString = "strict" := by first | rfl | decide +kernel | kernel_rfl
theorem enc_bad {id : String} {self : Value} {x : Str} {Q : Array UInt8 → Shared → Prop} {pre post : List Nat} {c : Nat} (hx : x.cps.toList = pre ++ c :: post) (hpre : ∀ c ∈ pre, c < 128) (hne : pre ≠ []) (hc : 128 ≤ c) (hl : x.cps.size < 1000)
    (h : ∀ stop, stop ≤ x.cps.size → wpAny M A (raiseEncodeFault {} "ascii" self pre.length stop "ordinal not in range(128)" : Sem PUnit) (fun _ _ => False) E s) :
    wpAny M A (encodeNarrow id asciiCodec none self x) Q E s := by
  have hsz : x.cps.size = pre.length + (post.length + 1) := by rw [← Array.length_toList, hx]; simp
  have hp0 : 0 < pre.length := List.length_pos_iff.mpr hne
  unfold encodeNarrow
  refine wpAny_bind ?_
  rw [Std.Legacy.Range.forIn_eq_forIn_range']
  have hn : Std.Legacy.Range.size [:x.length] = x.cps.size := by simp [Std.Legacy.Range.size, Str.length]
  rw [hn]
  refine wpAny_forIn_list _ (fun rest (st : Nat × Array UInt8 × Faults) s' => s' = s ∧ ((st = (0, #[], {}) ∧ rest.length = x.cps.size) ∨ (rest.length + 1 = x.cps.size ∧ st = (pre.length, (pre.map Nat.toUInt8).toArray, {})))) _ ?_ ?_ _ _ ⟨rfl, .inl ⟨rfl, by simp⟩⟩
  · rintro i rest st s' ⟨rfl, ⟨rfl, hr⟩ | ⟨hr, rfl⟩⟩
    · have hpos : 0 < x.cps.size := by omega
      have h0 : x.cps[0]? = some x.cps[0] := by simp [hpos]
      have hb : asciiCodec.bad x.cps[0] = false := by
        have e0 : x.cps[0] = pre[0] := by
          have : x.cps.toList[0]? = some pre[0] := by rw [hx, List.getElem?_append_left hp0]; simp
          rw [Array.getElem?_toList, h0] at this
          exact Option.some.inj this
        have := hpre pre[0] (by simp)
        simp [asciiCodec, e0]; omega
      have he : x.cps.extract 0 x.cps.size = x.cps := by simp
      have hf : Array.findIdx? asciiCodec.bad x.cps = some pre.length := by
        have : x.cps = (pre ++ c :: post).toArray := by rw [← hx]
        rw [this, List.findIdx?_toArray, List.findIdx?_append]
        have : List.findIdx? asciiCodec.bad pre = none := by
          rw [List.findIdx?_eq_none_iff]
          intro y hy
          have := hpre y hy
          simp [asciiCodec]; omega
        rw [this, List.findIdx?_cons]
        have : asciiCodec.bad c = true := by simp [asciiCodec]; omega
        simp [this]
      have hfold : Array.foldl (fun acc y => acc ++ (asciiCodec.bytesOf y).toArray) #[] (x.cps.extract 0 pre.length) = (pre.map Nat.toUInt8).toArray := by
        have : x.cps.extract 0 pre.length = pre.toArray := by
          have e : x.cps = (pre ++ c :: post).toArray := by rw [← hx]
          rw [e]
          apply Array.ext'
          simp
        rw [this, fold_octs]
        simp
      simp only [List.size_toArray, List.length_nil, gt_iff_lt, Nat.not_lt_zero, if_false, h0, hb, Bool.not_false, if_true, he, hf, Option.getD_some, hfold, Nat.zero_add]
      exact wpAny_pure ⟨rfl, .inr ⟨by simpa using hr, rfl⟩⟩
    · have h0 : x.cps[pre.length]? = some c := by
        rw [← Array.getElem?_toList, hx]; simp
      have hz : ¬ (pre.map Nat.toUInt8).toArray.size > sizeLine := by rw [sizeLine_eq]; simp; omega
      have hb : asciiCodec.bad c = true := by simp [asciiCodec]; omega
      simp only [hz, if_false, h0, hb, Bool.not_true, Bool.false_eq_true, strict_is]
      refine wpAny_bind (wpAny_rule ?_)
      have e1 : (("strict" == "strict") && !(asciiCodec.name == "utf-8")) = true := by decide
      simp only [e1, if_true]
      refine wpAny_bind (wpAny_mono (h _ ?_) (fun _ _ q => q.elim) fun _ _ q => q)
      generalize hq : Array.findIdx? (fun y => !asciiCodec.bad y) (x.cps.extract pre.length) = q
      cases q with
      | none => simp only [Option.getD_none]; omega
      | some j =>
        have := (Array.findIdx?_eq_some_iff_getElem.mp hq).1
        simp at this
        simp only [Option.getD_some]; omega
  · rintro st s' ⟨rfl, ⟨rfl, hr⟩ | ⟨hr, rfl⟩⟩
    · simp at hr; omega
    · simp at hr; omega
end Mine
end
section
set_option maxHeartbeats 8000000
open PySem PySem.W PyProof.Rows PySem.Calls PySem.Builtin PySem.Builtin._codecs PySem.W.X PySem.W.XRun
namespace Mine
variable [Bs]
theorem encode_tree2 (x : Str) (t u : Tok) : «str.encode» ⟨[.str x t, .str (Str.ofString "ascii") u], []⟩ = (do ret (← encodeRoad "str.encode" (.str x t) x (Str.ofString "ascii") none)) := by first | rfl | kernel_rfl
theorem encodeRoad_ascii (id : String) (self : Value) (x : Str) (errors : Option Str) : encodeRoad id self x (Str.ofString "ascii") errors = (do mkBytes (← encodeNarrow id asciiCodec errors self x)) := by
  first | rfl | kernel_rfl
/-- a new exception: its traceback and its context are none -/
structure ExcN (h h' : Heap) (e : Addr) (cls : String) : Prop where
  keeps : ∀ b o, h.get? b = some o → h'.get? b = some o
  new : h.get? e = none
  there : ∃ oe vs, h'.get? e = some oe ∧ oe.cls = .type cls ∧ oe.data = .fields vs ∧ vs[1]? = some .none ∧ vs[2]? = some .none
theorem mem_excN {h h' : Heap} {x y z : Addr} {ox oy oz : Obj} {cls : String} {vs : Array Value} (D : Mem h h' [] [(x, ox), (y, oy), (z, oz)]) (hc : oy.cls = .type cls) (hd : oy.data = .fields vs) (h1 : vs[1]? = some .none) (h2 : vs[2]? = some .none) : ExcN h h' y cls :=
  ⟨fun b o e => D.keep b o e (by rw [show away ([] : List (Addr × Obj)) b = true from rfl, Bool.or_true]), (D.nw (y, oy) (.tail _ (.head _))).2, _, vs, (D.nw (y, oy) (.tail _ (.head _))).1, hc, hd, h1, h2⟩
noncomputable def Back (Q : Value → Shared → Prop) (h : Heap) (g : Array GenState) (d : Drawn) (os : OsState) (cls : String) : Prop := ∀ (e : Addr) (h' : Heap) (tk : Nat), ExcN h h' e cls → Q (.ref e) ⟨h', g, d, tk, os⟩
theorem Back.go {Q : Value → Shared → Prop} {h h' : Heap} {g : Array GenState} {d : Drawn} {os : OsState} {cls : String} {e : Addr} {tk : Nat} (x : Back Q h g d os cls) (y : ExcN h h' e cls) : Q (.ref e) ⟨h', g, d, tk, os⟩ := x _ _ _ y
local macro_rules | `(tactic| x_close) => `(tactic| (refine Back.go (by assumption) (mem_excN (by assumption) rfl rfl rfl rfl)))
theorem mk_uee {w : World} {dp un : Nat} {fr : Option (List Env)} {gd : Option (List Code)} {Q : Value → Shared → Prop} {E : Value → Shared → Prop} {h : Heap} {g : Array GenState} {d : Drawn} {t : Nat} {os : OsState} {n : Str} {t1 t2 t3 t4 t5 : Tok} {a b : Nat} (ha : a < 1000) (hb : b < 1000)
    (hQ : Back Q h g d os "UnicodeEncodeError") :
    wpAny (model PG w) ⟨none, dp, fr, gd, un⟩ (call (.type "UnicodeEncodeError") [.str (Str.ofString "ascii") t1, .str n t2, .int (a : Nat) t3, .int (b : Nat) t4, .str (Str.ofString "ordinal not in range(128)") t5]) Q E ⟨h, g, d, t, os⟩ := by
  x_run
end Mine
end
section
set_option maxHeartbeats 8000000
open PySem PySem.W PyProof.Rows PySem.Calls PySem.Builtin PySem.Builtin._codecs
namespace Mine
variable [Bs]
/-! frames -/
noncomputable def Fs (h : Heap) (l : List Env) : Prop := ∀ env ∈ l, env.scope.kind ≠ .module ∧ ∃ L o es n, env.frame = some L ∧ (Hi L ∧ Bs.n ≤ L) ∧ h.get? L = some o ∧ o.data = .dict es n
theorem Fs.ext {X : Addr → Prop} {h h' : Heap} {l : List Env} (f : Fs h l) (x : Ext X h h') (n : ∀ env ∈ l, ∀ L, env.frame = some L → ¬ X L) : Fs h' l := fun env he => by
  obtain ⟨hk, L, o, es, k, hf, hi, ho, hd⟩ := f env he
  obtain ⟨o', ho', hd', _⟩ := x.data ho (n env he L hf)
  exact ⟨hk, L, o', es, k, hf, hi, ho', hd'.trans hd⟩
theorem Fs.non {h h' : Heap} {l : List Env} (f : Fs h l) (x : Ext Non h h') : Fs h' l := f.ext x fun _ _ _ _ q => q
theorem Fs.cons {h : Heap} {env : Env} {l : List Env} {L : Addr} {m : Str → Option Value} (f : Fs h l) (hk : env.scope.kind ≠ .module) (hf : env.frame = some L) (hi : Hi L) (hb : Bs.n ≤ L) (hn : h.Ns L m) : Fs h (env :: l) := fun e he => by
  rcases List.mem_cons.mp he with rfl | he
  · obtain ⟨o, es, ep, ho, hd, _⟩ := hn
    exact ⟨hk, L, o, es, ep, hf, ⟨hi, hb⟩, ho, hd⟩
  · exact f e he
theorem Fs.funFrames {h : Heap} {l : List Env} (f : Fs h l) : h.FunFrames (hideAll h (l.filterMap (·.frame))) l := by
  have key : ∀ (S : List Addr) (l' : List Env), (∀ env ∈ l', env ∈ l) → (∀ env ∈ l', ∀ L, env.frame = some L → L ∈ S) → h.FunFrames (hideAll h S) l' := by
    intro S l'
    induction l' with
    | nil => intro _ _; trivial
    | cons env r ih =>
      intro hl hS
      obtain ⟨hk, L, o, es, k, hf, _, ho, hd⟩ := f env (hl env (.head _))
      exact ⟨hk, ⟨L, o, hf, hideAll_none S (hS env (.head _) L hf), ho, fun vs q => by rw [hd] at q; cases q⟩, ih (fun e he => hl e (.tail _ he)) fun e he => hS e (.tail _ he)⟩
  exact key _ l (fun _ he => he) fun env he L hf => List.mem_filterMap.mpr ⟨env, he, hf⟩
theorem Fs.slots {h h' : Heap} {l : List Env} (f : Fs h l) (x : Heap.SlotsOnly (l.filterMap (·.frame)) h h') : Ext Non h h' := fun a o e _ => by
  by_cases hm : a ∈ l.filterMap (·.frame)
  · obtain ⟨sl, q⟩ := x.2.2 a o e
    refine ⟨sl, q, fun p => ?_⟩
    obtain ⟨env, he, hf⟩ := List.mem_filterMap.mp hm
    obtain ⟨_, L, o', es, k, hf', hi, ho, hd⟩ := f env he
    rw [hf'] at hf
    cases hf
    rw [e] at ho
    cases ho
    rcases p with p | p
    · exact absurd p (Nat.not_le.mpr hi.1)
    · exact absurd (p es k hd) (Nat.not_lt.mpr hi.2)
  · exact ⟨o.slots, (x.2.1 a hm).trans e, fun _ => rfl⟩
/-! exceptions that fly -/
structure EAt (h : Heap) (e : Addr) (cls : String) (a0 : Value × Value) (T : Addr) (fl : Value) : Prop where
  ex : ∃ oe vs, h.get? e = some oe ∧ oe.cls = .type cls ∧ oe.data = .fields vs ∧ (vs[0]? = some a0.1 ∧ vs[2]? = some a0.2) ∧ vs[1]? = some (.ref T)
  tb : ∃ oT ts, h.get? T = some oT ∧ oT.data = .fields ts ∧ ts[3]? = some fl
  ne : T ≠ e
theorem EAt.ext {X : Addr → Prop} {h h' : Heap} {e : Addr} {cls : String} {a0 : Value × Value} {T : Addr} {fl : Value} (x : EAt h e cls a0 T fl) (y : Ext X h h') (n1 : ¬ X e) (n2 : ¬ X T) : EAt h' e cls a0 T fl := by
  obtain ⟨⟨oe, vs, he, hc, hd, r⟩, ⟨oT, ts, hT, hdT, q⟩, ne⟩ := x
  exact ⟨⟨oe, vs, y.get he n1 (.inr fun _ _ z => nomatch (hd.symm.trans z)), hc, hd, r⟩, ⟨oT, ts, y.get hT n2 (.inr fun _ _ z => nomatch (hdT.symm.trans z)), hdT, q⟩, ne⟩
theorem EAt.typeIs {s : Shared} {e : Addr} {cls : String} {a0 : Value × Value} {T : Addr} {fl : Value} (x : EAt s.heap e cls a0 T fl) : s.TypeIs (.ref e) cls := let ⟨oe, _, he, hc, _⟩ := x.ex; ⟨oe, he, hc⟩
section
variable {M : Model} {A : Around} {E : Value → Shared → Prop} {s : Shared}
theorem entry_ {env : Env} {outer : List Env} {L e : Addr} {oe : Obj} {vs : Array Value} {a0 : Value × Value} {head : Value} {cls : String} {hadNext : Bool} {Q : Unit → Shared → Prop}
    (hfr : A.frames = some (env :: outer)) (FS : Fs s.heap (env :: outer)) (hf : env.frame = some L) (he : s.heap.get? e = some oe) (hc : oe.cls = .type cls) (hd : oe.data = .fields vs) (h0 : vs[0]? = some a0.1 ∧ vs[2]? = some a0.2) (hsz : 1 < vs.size)
    (h : ∀ h' T, Ext (At e) s.heap h' → s.heap.get? T = none → EAt h' e cls a0 T (rawInt L) → Q () { s with heap := h' }) :
    wpAny M A (do let a ← frameOf env; let pl ← entryPlaceOf L hadNext; let b ← EntryCells.newEntry head a .none (rawInt L) .none pl; setField (.ref e) 1 b) Q E s := by
  refine wpAny_bind (wpAny_frameOf_fun hfr FS.funFrames hf fun h₁ hs₁ => ?_)
  have x₁ := FS.slots hs₁
  refine wpAny_bind (wpAny_entryPlaceOf fun pl hpl => ?_)
  unfold EntryCells.newEntry newFields
  refine wpAny_bind (wpAny_newObj_type ?_ (hpl.sizeOk5 _ _ _ _ _))
  have he₁ : h₁.get? e = some oe := x₁.get he id (.inr fun _ _ z => nomatch (hd.symm.trans z))
  have he₂ := Heap.get?_push_of_some (h := h₁) { cls := .type "traceback", dict := none, data := .fields ([head, .ref L, .none, rawInt L, .none] ++ (if pl.isEmpty then List.replicate 6 Value.none else pl)).toArray } he₁
  refine wpAny_setField he₂ hd hsz ?_
  have hTe : h₁.objs.size ≠ e := Nat.ne_of_gt (Heap.lt_size he₁)
  have hd₃ := Obj.data_mapFields hd (·.setIfInBounds 1 (Value.ref h₁.objs.size))
  refine h _ h₁.objs.size ((x₁.mono fun _ q => q.elim).trans ((Ext.push _ _ _).trans (Ext.sameBut (Heap.SameBut.update ..) rfl))) (Heap.get?_none_of_le (by rw [hs₁.1]; exact Nat.le_refl _)) ⟨?_, ?_, hTe⟩
  · refine ⟨_, _, Heap.get?_update_self _ he₂ (Obj.isFreed_of_fields hd₃), (Obj.cls_mapFields ..).trans hc, hd₃, ?_, by simp [hsz]⟩
    exact ⟨by rw [Array.getElem?_setIfInBounds_ne (by decide)]; exact h0.1, by rw [Array.getElem?_setIfInBounds_ne (by decide)]; exact h0.2⟩
  · refine ⟨_, _, (Heap.get?_update_other _ _ (Ne.symm hTe)).trans (Heap.get?_push_size h₁ rfl), rfl, ?_⟩
    simp
theorem note1 {env : Env} {outer : List Env} {L e : Addr} {oe : Obj} {vs : Array Value} {a0 : Value × Value} {cls : String} {Q : Unit → Shared → Prop}
    (hfr : A.frames = some (env :: outer)) (FS : Fs s.heap (env :: outer)) (hf : env.frame = some L) (he : s.heap.get? e = some oe) (hc : oe.cls = .type cls) (hd : oe.data = .fields vs) (h0 : vs[0]? = some a0.1 ∧ vs[2]? = some a0.2) (h1 : vs[1]? = some .none)
    (h : ∀ h' T, Ext (At e) s.heap h' → s.heap.get? T = none → EAt h' e cls a0 T (rawInt L) → Q () { s with heap := h' }) : wpAny M A (noteFrame (.ref e) env) Q E s := by
  unfold noteFrame
  simp only [hf]
  refine wpAny_bind (wpAny_field he hd h1 ?_)
  rw [if_neg (by decide)]
  exact entry_ hfr FS hf he hc hd h0 (Array.getElem?_eq_some_iff.mp h1).1 h
theorem note0 {env : Env} {L e T : Addr} {a0 : Value × Value} {cls : String} {Q : Unit → Shared → Prop} (hf : env.frame = some L) (x : EAt s.heap e cls a0 T (rawInt L)) (h : Q () s) : wpAny M A (noteFrame (.ref e) env) Q E s := by
  obtain ⟨⟨oe, vs, he, hc, hd, _, h1⟩, ⟨oT, ts, hT, hdT, q⟩, ne⟩ := x
  exact wpAny_noteFrame_inFlight hf he hd h1 hT hdT q h
theorem note2 {env : Env} {outer : List Env} {L e T : Addr} {a0 : Value × Value} {cls : String} {Q : Unit → Shared → Prop}
    (hfr : A.frames = some (env :: outer)) (FS : Fs s.heap (env :: outer)) (hf : env.frame = some L) (x : EAt s.heap e cls a0 T .none)
    (h : ∀ h' T', Ext (fun a => a = e ∨ a = T) s.heap h' → s.heap.get? T' = none → EAt h' e cls a0 T' (rawInt L) → Q () { s with heap := h' }) : wpAny M A (noteFrame (.ref e) env) Q E s := by
  obtain ⟨⟨oe, vs, he, hc, hd, h0, h1⟩, ⟨oT, ts, hT, hdT, q⟩, ne⟩ := x
  unfold noteFrame
  simp only [hf]
  refine wpAny_bind (wpAny_field he hd h1 ?_)
  rw [if_pos (show (Value.ref T != Value.none) = true from by simp)]
  refine wpAny_bind (wpAny_field hT hdT q ?_)
  rw [if_neg (show ¬ ((Value.none == rawInt L) = true) from by simp [rawInt])]
  refine wpAny_bind (wpAny_setField hT hdT (Array.getElem?_eq_some_iff.mp q).1 ?_)
  have y : Ext (At T) s.heap (s.heap.update T (Obj.mapFields (·.setIfInBounds 3 Value.none))) := Ext.sameBut (Heap.SameBut.update ..) rfl
  refine entry_ hfr (FS.ext y fun env he L hf z => ?_) hf (y.get he (Ne.symm ne) (.inr fun _ _ z => nomatch (hd.symm.trans z))) hc hd h0 (Array.getElem?_eq_some_iff.mp h1).1 fun h' T' a b c => h h' T' ((y.mono fun _ z => .inr z).trans (a.mono fun _ z => .inl z)) ?_ c
  · obtain ⟨_, L', o, es, k, hf', _, ho, hdL⟩ := FS env he
    rw [hf'] at hf
    cases hf
    cases z
    rw [hT] at ho
    cases ho
    rw [hdT] at hdL
    cases hdL
  · cases w : s.heap.get? T' with
    | none => rfl
    | some o =>
      by_cases z : T' = T
      · subst z
        have := Heap.get?_update_self (Obj.mapFields (·.setIfInBounds 3 Value.none)) hT (Obj.isFreed_of_fields (Obj.data_mapFields hdT _))
        rw [this] at b
        cases b
      · rw [Heap.get?_update_other _ _ (Ne.symm z)] at b
        rw [b] at w
        cases w
theorem setFl {e T : Addr} {a0 : Value × Value} {fl : Value} {cls : String} {fr : Option Addr} {Q : Unit → Shared → Prop} (x : EAt s.heap e cls a0 T fl)
    (h : ∀ h', Ext (At T) s.heap h' → EAt h' e cls a0 T (fr.elim .none fun f => rawInt f) → Q () { s with heap := h' }) : wpAny M A (setFlight (.ref e) fr) Q E s := by
  obtain ⟨⟨oe, vs, he, hc, hd, h0, h1⟩, ⟨oT, ts, hT, hdT, q⟩, ne⟩ := x
  have hsz := (Array.getElem?_eq_some_iff.mp q).1
  unfold setFlight
  refine wpAny_bind (wpAny_field he hd h1 ?_)
  rw [if_pos (show (Value.ref T != Value.none) = true from by simp)]
  refine wpAny_setField hT hdT hsz (h _ (Ext.sameBut (Heap.SameBut.update ..) rfl) ⟨⟨oe, vs, (Heap.get?_update_other _ _ ne).trans he, hc, hd, h0, h1⟩, ?_, ne⟩)
  have hd₃ := Obj.data_mapFields hdT (·.setIfInBounds 3 (fr.elim Value.none fun f => rawInt f))
  exact ⟨_, _, Heap.get?_update_self _ hT (Obj.isFreed_of_fields hd₃), hd₃, by simp [hsz]⟩
theorem cameBack {env : Env} {e T : Addr} {a0 : Value × Value} {fl : Value} {cls : String} (x : EAt s.heap e cls a0 T fl)
    (h : ∀ h', Ext (At T) s.heap h' → EAt h' e cls a0 T (env.frame.elim .none fun f => rawInt f) → E (.ref e) { s with heap := h' }) : cameBackBy M A env E (.ref e) s := by
  unfold cameBackBy
  obtain ⟨oe, vs, he, hc, hd, h0, h1⟩ := x.ex
  refine wpAny_bind (wpAny_field he hd h1 ?_)
  rw [if_neg (show ¬ ((Value.ref T == Value.none) = true) from by simp)]
  exact setFl x h
theorem leaves {env : Env} {L e T : Addr} {a0 : Value × Value} {cls : String} {Q : Unit → Shared → Prop} (hf : env.frame = some L) (x : EAt s.heap e cls a0 T (rawInt L))
    (h : ∀ h', Ext (At T) s.heap h' → EAt h' e cls a0 T .none → Q () { s with heap := h' }) : wpAny M A (leaving env (.ref e)) Q E s := by
  unfold leaving
  exact wpAny_bind (note0 hf x (setFl (fr := none) x h))
end
end Mine
end
section
set_option maxHeartbeats 8000000
open PySem PySem.W PyProof.Rows PySem.Calls PySem.Builtin PySem.Builtin._codecs
namespace Mine
variable [Bs]
section
variable {prog : Program} {w : World} {A : Around} {E : Value → Shared → Prop} {s : Shared} {env : Env}
theorem entry_unchain : entryFor table "proto.unchain" = some Builtin.«proto.unchain» := entryFor_of_tree (by kernel_rfl)
theorem plain_unchain : plainId "proto.unchain" = true := by decide +kernel
theorem raiseNew_in {α : Type} {e u : Addr} {ou oe : Obj} {us vs : Array Value} {Q : α → Shared → Prop} (hh : A.handled = some (.ref u)) (hne : e ≠ u) (hu : s.heap.get? u = some ou) (hd : ou.data = .fields us) (h2 : us[2]? = some .none)
    (he : s.heap.get? e = some oe) (hde : oe.data = .fields vs) (hsz : 2 < vs.size)
    (h : E (.ref e) { s with heap := s.heap.update e (Obj.mapFields (·.setIfInBounds 2 (.ref u))) }) : wpAny (model prog w) A (raiseNew (.ref e) : Sem α) Q E s := by
  unfold raiseNew
  refine wpAny_bind (wpAny_handled ?_)
  rw [hh]
  show wpAny _ _ (if ((Value.ref u != Value.ref e) = true) then _ else _) _ _ _
  rw [if_pos (by simp [Ne.symm hne])]
  refine wpAny_bind (wpAny_holding (wpAny_runValue (codeAny_builtin entry_unchain ?_)))
  rw [Around.under_plainId plain_unchain _]
  show wpAny _ _ (field (.ref u) 2 >>= _) _ _ _
  refine wpAny_bind (wpAny_field hu hd h2 ?_)
  refine wpAny_pure ?_
  have y := wpAny_setField (M := model prog w) (A := A) (E := E) (x := .ref u) (Q := fun (_ : Unit) s' => wpAny (model prog w) A (throw (Value.ref e) : Sem α) Q E s') he hde hsz (wpAny_throw h)
  exact wpAny_bind y
theorem raiseStmt_in {cls : String} (F : ExcRaiseFacts cls) {u : Addr} {x : Sem Value} {Q : Flow → Shared → Prop} (hh : A.handled = some (.ref u))
    (h : wpAny (model prog w) A x (fun v s₁ => ∃ e t ou us, v = .ref e ∧ s₁.heap.get? e = some { cls := .type cls, data := .fields #[.ref t, .none, .none, .none, .bool false, .none] } ∧ e ≠ u ∧
      s₁.heap.get? u = some ou ∧ ou.data = .fields us ∧ us[2]? = some .none ∧ E (.ref e) { s₁ with heap := s₁.heap.update e (Obj.mapFields (·.setIfInBounds 2 (.ref u))) }) E s) :
    wpAny (model prog w) A (raiseStmt env (some x) none) Q E s := by
  unfold raiseStmt
  refine wpAny_bind (wpAny_mono h (fun v s₁ h₁ => ?_) fun _ _ x => x)
  obtain ⟨e, t, ou, us, rfl, he, hne, hu, hd, h2, hE⟩ := h₁
  obtain ⟨hp, g, d, tk, os⟩ := s₁
  have hsub := F.isExc
  have hmeta := F.plainMeta
  repeat (first | refine wpAny_loadPart he ?_ | wp_step)
  exact raiseNew_in hh hne hu hd h2 he rfl (by show 2 < 6; decide) hE
theorem Raise_in {cls : String} (F : ExcRaiseFacts cls) {u : Addr} {x : Expr} {pos : Pos} {Q : Flow → Shared → Prop} (hh : A.handled = some (.ref u))
    (h : wpAny (model prog w) A (eval x env) (fun v s₁ => ∃ e t ou us, v = .ref e ∧ s₁.heap.get? e = some { cls := .type cls, data := .fields #[.ref t, .none, .none, .none, .bool false, .none] } ∧ e ≠ u ∧
      s₁.heap.get? u = some ou ∧ ou.data = .fields us ∧ us[2]? = some .none ∧ E (.ref e) { s₁ with heap := s₁.heap.update e (Obj.mapFields (·.setIfInBounds 2 (.ref u))) }) E s) :
    wpAny (model prog w) A (exec (.Raise (some x) none pos) env) Q E s := by
  rw [arm_exec_Raise]
  first
    | exact wpAny_bind (wpAny_standAt (raiseStmt_in F hh (wpAny_bind (wpAny_mono h (fun v s₁ h₁ => wpAny_bind (wpAny_standAt (wpAny_pure h₁))) fun _ _ x => x))))
    | (show wpAny _ A (do standAt pos; raiseStmt env (some (do let v ← eval x env; standAt pos; pure v)) none) Q E s; exact wpAny_bind (wpAny_standAt (raiseStmt_in F hh (wpAny_bind (wpAny_mono h (fun v s₁ h₁ => wpAny_bind (wpAny_standAt (wpAny_pure h₁))) fun _ _ x => x)))))
theorem newExc_ {x : Str} {np cpos : Pos} {e : Expr} {cls newId initId : String} {Q : Value → Shared → Prop} (F : ExcCallFacts cls newId initId)
    (h : wpAny (model prog w) A (eval (.Name x np) env) (fun f s₁ => f = .type cls ∧ wpAny (model prog w) A (eval e env) (fun v s₂ => ∀ h' ex, Heap.MadeExc s₂.heap h' ex cls [v] → Q (.ref ex) { s₂ with heap := h' }) E s₁) E s)
    (he : starEach [e] env = [(false, eval e env)] := by rfl) : wpAny (model prog w) A (eval (.Call (.Name x np) [e] [] cpos) env) Q E s := by
  refine wpAny_Call_ofName (wpAny_mono h (fun f s₁ h₁ => ?_) fun _ _ x => x)
  obtain ⟨rfl, h₁⟩ := h₁
  rw [he]
  refine callWith_excType rfl (evalArgs_plain (spliced_cons (wpAny_mono h₁ (fun v s₂ h₂ => spliced_nil ?_) fun _ _ x => x)))
  obtain ⟨hp, g, d, tk, os⟩ := s₂
  exact wpAny_call_exc F (fun h' ex M => h₂ h' ex M) (by show 1 ≤ sizeLine; rw [sizeLine_eq]; decide)
end
end Mine
end
section
set_option maxHeartbeats 8000000
open PySem PySem.W PyProof.Rows PySem.Calls PySem.Builtin PySem.Builtin._codecs
namespace Mine
variable [Bs]
section
variable {w : World} {A : Around} {E : Value → Shared → Prop} {s : Shared} {env : Env}
theorem mk_uee' {n : Str} {t1 t2 t3 t4 t5 : Tok} {a b : Nat} {Q : Value → Shared → Prop} (hh : A.handled = none) (ha : a < 1000) (hb : b < 1000)
    (h : ∀ e h' tk, ExcN s.heap h' e "UnicodeEncodeError" → Q (.ref e) { s with heap := h', toks := tk }) :
    wpAny (model PG w) A (call (.type "UnicodeEncodeError") [.str (Str.ofString "ascii") t1, .str n t2, .int (a : Nat) t3, .int (b : Nat) t4, .str (Str.ofString "ordinal not in range(128)") t5]) Q E s := by
  obtain ⟨hd, dp, fr, gd, un⟩ := A
  cases hh
  obtain ⟨hp, g, d, t, os⟩ := s
  exact mk_uee ha hb h
theorem encode_ok {o e : Expr} {apos pos : Pos} {Q : Value → Shared → Prop}
    (h : wpAny (model PG w) A (eval o env) (fun ov s₁ => ∃ n t, ov = .str n t ∧ (∀ c ∈ n.cps.toList, c < 128) ∧ n.cps.size < 1000 ∧ wpAny (model PG w) A (eval e env) (fun av s₂ => ∃ u, av = .str (Str.ofString "ascii") u ∧ ∀ t' tk, Q (.bytes (octs n) t') { s₂ with toks := tk }) E s₁) E s)
    (hbase : attributeBase o (Str.ofString "encode") env (eval o env) = eval o env := by rfl) (hs : starEach [e] env = [(false, eval e env)] := by rfl) (hline : (apos.endLine == pos.line) = true := by rfl) :
    wpAny (model PG w) A (eval (.Call (.Attribute o (Str.ofString "encode") apos) [e] [] pos) env) Q E s := by
  refine Call_method1 hbase hs hline (wpAny_mono h (fun ov s₁ h₁ => ?_) fun _ _ x => x)
  obtain ⟨n, t, rfl, hn, hl, h₁⟩ := h₁
  refine ⟨"str", "str.encode", F.plainAttrs_str, F.slot_str_encode, F.type_str_encode, typeIs_str _ _ _, (fun a e => by cases e), callWith_builtin (by rfl) (evalArgs_plain (spliced_cons (wpAny_mono h₁ (fun av s₂ h₂ => ?_) fun _ _ x => x)))⟩
  obtain ⟨u, rfl, hq⟩ := h₂
  refine spliced_nil (wpAny_call_entry F.slot_str_encode (typeIs_str _ _ _) F.entry_str_encode ?_ (F.args_str_encode_2 _ _))
  show wpAny _ _ («str.encode» ⟨[.str n t, .str (Str.ofString "ascii") u], []⟩) _ _ _
  rw [encode_tree2, encodeRoad_ascii]
  refine wpAny_bind (wpAny_bind (enc_ok hn hl ?_))
  unfold mkBytes
  rw [if_neg (by rw [sizeLine_eq]; simp [octs]; omega)]
  exact wpAny_bind (wpAny_fresh (wpAny_pure (wpAny_pure ⟨_, rfl, hq _ _⟩)))
theorem encode_bad {o e : Expr} {apos pos : Pos} {Q : Value → Shared → Prop} (hh : A.handled = none)
    (h : wpAny (model PG w) A (eval o env) (fun ov s₁ => ∃ n t pre c post, ov = .str n t ∧ n.cps.toList = pre ++ c :: post ∧ (∀ c ∈ pre, c < 128) ∧ pre ≠ [] ∧ 128 ≤ c ∧ n.cps.size < 1000 ∧
      wpAny (model PG w) A (eval e env) (fun av s₂ => ∃ u, av = .str (Str.ofString "ascii") u ∧ ∀ x h' tk, ExcN s₂.heap h' x "UnicodeEncodeError" → E (.ref x) { s₂ with heap := h', toks := tk }) E s₁) E s)
    (hbase : attributeBase o (Str.ofString "encode") env (eval o env) = eval o env := by rfl) (hs : starEach [e] env = [(false, eval e env)] := by rfl) (hline : (apos.endLine == pos.line) = true := by rfl) :
    wpAny (model PG w) A (eval (.Call (.Attribute o (Str.ofString "encode") apos) [e] [] pos) env) Q E s := by
  refine Call_method1 hbase hs hline (wpAny_mono h (fun ov s₁ h₁ => ?_) fun _ _ x => x)
  obtain ⟨n, t, pre, c, post, rfl, hx, hpre, hne, hc, hl, h₁⟩ := h₁
  refine ⟨"str", "str.encode", F.plainAttrs_str, F.slot_str_encode, F.type_str_encode, typeIs_str _ _ _, (fun a e => by cases e), callWith_builtin (by rfl) (evalArgs_plain (spliced_cons (wpAny_mono h₁ (fun av s₂ h₂ => ?_) fun _ _ x => x)))⟩
  obtain ⟨u, rfl, hq⟩ := h₂
  refine spliced_nil (wpAny_call_entry F.slot_str_encode (typeIs_str _ _ _) F.entry_str_encode ?_ (F.args_str_encode_2 _ _))
  show wpAny _ _ («str.encode» ⟨[.str n t, .str (Str.ofString "ascii") u], []⟩) _ _ _
  rw [encode_tree2, encodeRoad_ascii]
  refine wpAny_bind (wpAny_bind (enc_bad hx hpre hne hc hl fun stop hst => ?_))
  have hp : pre.length < 1000 := by
    have : n.cps.toList.length = (pre ++ c :: post).length := by rw [hx]
    simp at this; omega
  show wpAny _ _ ((do call (.type "UnicodeEncodeError") [← mkStr (Str.ofString "ascii"), ← (pure (Value.str n t) : Sem Value), ← mkInt (pre.length : Nat), ← mkInt (stop : Nat), ← mkStr (Str.ofString "ordinal not in range(128)")]) >>= fun x => raiseNew x) _ _ _
  have ms : ∀ {s : Shared} {x : Str} {Q : Value → Shared → Prop}, x.length ≤ sizeLine → (∀ t tk, Q (.str x t) { s with toks := tk }) → wpAny (model PG w) A.in1 (mkStr x) Q E s := fun hx hq => by
    unfold mkStr
    rw [if_neg (Nat.not_lt.mpr hx)]
    exact wpAny_bind (wpAny_fresh (wpAny_pure (hq _ _)))
  refine wpAny_bind (wpAny_bind (ms (by decide +kernel) fun _ _ => wpAny_bind (wpAny_pure (wpAny_bind (wpAny_mkInt (wpAny_bind (wpAny_mkInt (wpAny_bind (ms (by decide +kernel) fun _ _ => mk_uee' hh hp (by omega) fun e h' tk x => wpAny_raiseNew_none hh (hq e h' tk x))))))))))
end
theorem boot_uee : bootBuiltins (Str.ofString "UnicodeEncodeError") = some (.type "UnicodeEncodeError") := by kernel_rfl
theorem boot_ve : bootBuiltins (Str.ofString "ValueError") = some (.type "ValueError") := by kernel_rfl
theorem nsIn_uee (p : Params) : nsIn (heapK p) mainGlobals (Str.ofString "UnicodeEncodeError") = some none := by kernel_rfl
theorem nsIn_ve (p : Params) : nsIn (heapK p) mainGlobals (Str.ofString "ValueError") = some none := by kernel_rfl
theorem sub_uee : isSubtype (.type "UnicodeEncodeError") (.type "UnicodeEncodeError") = pure true := by rw [isSubtype_type]; kernel_rfl
theorem sub_uee_base : isSubtype (.type "UnicodeEncodeError") (.type "BaseException") = pure true := by rw [isSubtype_type]; kernel_rfl
theorem sub_ve_base : isSubtype (.type "ValueError") (.type "BaseException") = pure true := by rw [isSubtype_type]; kernel_rfl
theorem sub_ve : isSubtype (.type "ValueError") (.type "ValueError") = pure true := by rw [isSubtype_type]; kernel_rfl
theorem meta_uee : isSubtype (.type ((Manifest.find? "UnicodeEncodeError").elim "type" fun x => x.metatype)) (.type "tuple") = pure false := by rw [isSubtype_type]; kernel_rfl
theorem meta_ve : isSubtype (.type ((Manifest.find? "ValueError").elim "type" fun x => x.metatype)) (.type "tuple") = pure false := by rw [isSubtype_type]; kernel_rfl
theorem bytes_ok {w : World} {mg mb : Str → Option Value} {A : Around} {s : Shared} {n : Str} {t : Tok} (G : Gd w mg mb s.heap) (R : Rm A 5) (hn : ∀ c ∈ n.cps.toList, c < 128) (hl : n.cps.size < 1000) :
    codeAny (model PG w) A (.call (.ref 36) ⟨[.str n t], []⟩) (fun r s' => ∃ h' tk t', r = .ok (.ret (.bytes (octs n) t')) ∧ s' = { s with heap := h', toks := tk } ∧ Ext Non s.heap h') s := by
  refine call_plain_ret R.d (G.k 36 _ rfl) rfl G.lim (codeRec_of G.k rfl) rfl (locs rfl) (fun h₁ F => ?_)
  have FL : Loc h₁ s.heap.objs.size [(Str.ofString "s", .str n t)] := F.ns
  have E₁ : Ext Non s.heap h₁ := Ext.of F.keep _
  have G₁ : Gd w mg mb h₁ := G.ext E₁ fun _ q => q.elim
  clear F
  refine wpAny_execs_cons (wpAny_If (wpAny_isTrue_value (isinst_ G₁ (Loc.name FL rfl (Gd.built G₁ (nsIn_str _) boot_str' (IsiPair.str_str (wpAny_truthy_bool ?_)))))))
  simp only [if_true]
  refine wpAny_execs_cons (wpAny_Try_except (wpAny_execs_cons (wpAny_Return_some (encode_ok (Loc.name FL rfl ⟨n, t, rfl, hn, hl, Constant_str ⟨_, rfl, fun t' tk => ?_⟩⟩)))))
  exact ⟨h₁, _, t', rfl, rfl, E₁⟩
noncomputable def refusal : Str := Str.ofString "string argument should contain only ASCII characters"
theorem bytes_bad {w : World} {mg mb : Str → Option Value} {A : Around} {s : Shared} {n : Str} {t : Tok} {outer : List Env} {pre post : List Nat} {c : Nat} (G : Gd w mg mb s.heap) (R : Rm A 5) (hfr : A.frames = some outer) (FS : Fs s.heap outer) (hs : 114 < s.heap.objs.size) (hb : Bs.n ≤ s.heap.objs.size)
    (hx : n.cps.toList = pre ++ c :: post) (hpre : ∀ c ∈ pre, c < 128) (hne : pre ≠ []) (hc : 128 ≤ c) (hl : n.cps.size < 1000) :
    codeAny (model PG w) A (.call (.ref 36) ⟨[.str n t], []⟩) (fun r s' => ∃ h' tk e T t0 tk0, r = .error (.ref e) ∧ s' = { s with heap := h', toks := tk } ∧ Ext Non s.heap h' ∧ (∃ u, EAt h' e "ValueError" (.ref t0, u) T .none) ∧
      h'.get? t0 = some { cls := .type "tuple", data := .seq #[.str refusal tk0] } ∧ s.heap.get? e = none ∧ s.heap.get? T = none ∧ s.heap.get? t0 = none) s := by
  refine codeHide fun R0 hR0 => ?_
  refine call_plain R.d (G.k 36 _ rfl) rfl G.lim (codeRec_of G.k rfl) rfl (locs rfl) (fun h₁ F => ?_)
  have FL : Loc h₁ s.heap.objs.size [(Str.ofString "s", .str n t)] := F.ns
  have E₁ : Ext Non s.heap h₁ := Ext.of F.keep _
  have G₁ : Gd w mg mb h₁ := G.ext E₁ fun _ q => q.elim
  clear F
  refine wpAny_execs_cons (wpAny_If (wpAny_isTrue_value (isinst_ G₁ (Loc.name FL rfl (Gd.built G₁ (nsIn_str _) boot_str' (IsiPair.str_str (wpAny_truthy_bool ?_)))))))
  simp only [if_true]
  refine wpAny_execs_cons (wpAny_Try_except (wpAny_execs_cons (wpAny_Return_some (encode_bad R.handled (Loc.name FL rfl ⟨n, t, pre, c, post, rfl, hx, hpre, hne, hc, hl, Constant_str ⟨_, rfl, fun u h₂ tk X => ?_⟩⟩)))))
  have hL : Hi s.heap.objs.size := hs
  have E₂ : Ext Non h₁ h₂ := Ext.of X.keeps _
  have FL₂ := Loc.ext FL E₂ id
  have FSa : ∀ {h : Heap}, Ext Non s.heap h → Loc h s.heap.objs.size [(Str.ofString "s", .str n t)] → ∀ env : Env, env.frame = some s.heap.objs.size → env.scope.kind ≠ .module → Fs h (env :: outer) := fun x F env hf hk => Fs.cons (FS.non x) hk hf hL hb F
  have e₂ := E₁.non E₂
  obtain ⟨ou, us, hu, hcu, hdu, h1, h2⟩ := X.there
  have hnu : s.heap.get? u = none := by
    cases q : s.heap.get? u with
    | none => rfl
    | some o => have := E₁.data q id; obtain ⟨o', ho', _⟩ := this; rw [X.new] at ho'; cases ho'
  obtain ⟨a0, h0⟩ : ∃ a0, us[0]? = some a0 := ⟨us[0]'(by have := (Array.getElem?_eq_some_iff.mp h1).1; omega), Array.getElem?_eq_getElem _⟩
  refine note1 (a0 := (a0, .none)) (Around.frames_deeper hfr) (FSa e₂ FL₂ _ rfl (by show ScopeKind.function ≠ ScopeKind.module; decide)) rfl hu hcu hdu ⟨h0, h2⟩ h1 fun h₃ T E₃ hT X₃ => ?_
  have uL : s.heap.objs.size ≠ u := fun q => by
    obtain ⟨o, es, ep, ho, hd, _⟩ := FL
    rw [q] at ho
    rw [X.new] at ho
    cases ho
  have e₃ : Ext Non s.heap h₃ := e₂.step E₃ fun a o e z => by rw [z, hnu] at e; cases e
  have hnT : s.heap.get? T = none := by
    cases q : s.heap.get? T with
    | none => rfl
    | some o => obtain ⟨o', ho', _⟩ := e₂.data q id; rw [hT] at ho'; cases ho'
  have TL : s.heap.objs.size ≠ T := fun q => by
    obtain ⟨o, es, ep, ho, hd, _⟩ := FL₂
    rw [q] at ho
    rw [hT] at ho
    cases ho
  have FL₃ := Loc.ext FL₂ E₃ uL
  refine setFl (fr := none) X₃ fun h₄ E₄ X₄ => ?_
  have e₄ : Ext Non s.heap h₄ := e₃.step E₄ fun a o e z => by rw [z, hnT] at e; cases e
  have FL₄ := Loc.ext FL₃ E₄ TL
  have G₄ : Gd w mg mb h₄ := G.ext e₄ fun _ q => q.elim
  refine wpAny_handleBy_builtin (b := true) sub_uee_base meta_uee sub_uee (Gd.built G₄ (nsIn_uee _) boot_uee ⟨rfl, X₄.typeIs, ?_⟩)
  simp only [if_true]
  refine setFl (fr := none) X₄ fun h₅ E₅ X₅ => ?_
  have e₅ : Ext Non s.heap h₅ := e₄.step E₅ fun a o e z => by rw [z, hnT] at e; cases e
  have FL₅ := Loc.ext FL₄ E₅ TL
  have G₅ : Gd w mg mb h₅ := G.ext e₅ fun _ q => q.elim
  obtain ⟨ou', us', hu', _, hdu', ⟨_, h2'⟩, _⟩ := X₅.ex
  refine wpAny_execs_cons (Raise_in (u := u) F.excRaise_ValueError rfl (newExc_ F.excCall_ValueError (Gd.built G₅ (nsIn_ve _) boot_ve ⟨rfl, Constant_str fun h₆ e M => ?_⟩)))
  · have E₆ : Ext Non h₅ h₆ := Ext.of M.keeps _
    have e₆ := e₅.non E₆
    have FL₆ := Loc.ext FL₅ E₆ id
    obtain ⟨t0, he, hn0, ht0⟩ := M.there
    have hne' : s.heap.get? e = none := by
      cases q : s.heap.get? e with
      | none => rfl
      | some o => obtain ⟨o', ho', _⟩ := e₅.data q id; rw [M.new] at ho'; cases ho'
    have hnt' : s.heap.get? t0 = none := by
      cases q : s.heap.get? t0 with
      | none => rfl
      | some o => obtain ⟨o', ho', _⟩ := e₅.data q id; rw [hn0] at ho'; cases ho'
    have eu : e ≠ u := fun q => by have := M.new; rw [q, hu'] at this; cases this
    refine ⟨e, t0, ou', us', rfl, he, eu, M.keeps _ _ hu', hdu', h2', ?_⟩
    have E₇ : Ext (At e) h₆ (h₆.update e (Obj.mapFields (·.setIfInBounds 2 (.ref u)))) := Ext.sameBut (Heap.SameBut.update ..) rfl
    have he₇ := Heap.get?_update_self (Obj.mapFields (·.setIfInBounds 2 (.ref u))) he rfl
    have e₇ : Ext Non s.heap (h₆.update e (Obj.mapFields (·.setIfInBounds 2 (.ref u)))) := e₆.step E₇ fun a o q z => by rw [z, hne'] at q; cases q
    have eL : s.heap.objs.size ≠ e := fun q => by
      obtain ⟨o, es, ep, ho, hd, _⟩ := FL₅
      rw [q] at ho
      rw [M.new] at ho
      cases ho
    have FL₇ := Loc.ext FL₆ E₇ eL
    have te : t0 ≠ e := fun q => by rw [q, he] at ht0; exact absurd (congrArg Obj.cls (Option.some.inj ht0)) (by show ¬ Value.type "ValueError" = Value.type "tuple"; decide)
    have ht₇ := E₇.get ht0 te (.inr fun _ _ z => nomatch z)
    generalize h₆.update e (Obj.mapFields (·.setIfInBounds 2 (.ref u))) = h₇ at he₇ e₇ FL₇ ht₇ ⊢
    refine note1 (a0 := (.ref t0, .ref u)) (Around.frames_deeper hfr) (FSa e₇ FL₇ _ rfl (by show ScopeKind.function ≠ ScopeKind.module; decide)) rfl he₇ rfl rfl ⟨rfl, rfl⟩ rfl fun h₈ T₂ E₈ hT₂ X₈ => ?_
    have e₈ : Ext Non s.heap h₈ := e₇.step E₈ fun a o q z => by rw [z, hne'] at q; cases q
    have hnT₂ : s.heap.get? T₂ = none := by
      cases q : s.heap.get? T₂ with
      | none => rfl
      | some o => obtain ⟨o', ho', _⟩ := e₇.data q id; rw [hT₂] at ho'; cases ho'
    have tT : t0 ≠ T₂ := fun q => by rw [q, hT₂] at ht₇; cases ht₇
    have ht₈ := E₈.get ht₇ te (.inr fun _ _ z => nomatch z)
    refine cameBack X₈ fun h₉ E₉ X₉ => ?_
    have e₉ : Ext Non s.heap h₉ := e₈.step E₉ fun a o q z => by rw [z, hnT₂] at q; cases q
    have ht₉ := E₉.get ht₈ tT (.inr fun _ _ z => nomatch z)
    refine leaves rfl X₉ fun h₀ E₀ X₀ => ?_
    have e₀ : Ext Non s.heap h₀ := e₉.step E₀ fun a o q z => by rw [z, hnT₂] at q; cases q
    exact hR0 _ _ ⟨h₀, _, e, T₂, t0, _, rfl, rfl, e₀, ⟨_, X₀⟩, E₀.get ht₉ tT (.inr fun _ _ z => nomatch z), hne', hnT₂, hnt'⟩
end Mine
end
section
set_option maxHeartbeats 8000000
open PySem PySem.W PyProof.Rows PySem.Calls PySem.Builtin
namespace Mine
variable [Bs]
section
variable {w : World} {A : Around} {E : Value → Shared → Prop} {s : Shared} {env : Env} {mg mb : Str → Option Value}
theorem isi_bytes_bytes {x : Array UInt8} {u : Tok} {Q : Value → Shared → Prop} (h : Q (.bool true) s) : wpAny (model PG w) A (call (.builtin "isinstance") [.bytes x u, .type "bytes"]) Q E s :=
  call_isinstance (isinstance_true (Tx := "bytes") F.isi_meta_bytes F.sub_bytes_bytes) ⟨rfl, h⟩
theorem str_ {np cpos : Pos} {e : Expr} {Q : Value → Shared → Prop} (G : Gd w mg mb s.heap)
    (h : wpAny (model PG w) A (eval e env) (fun v s₂ => wpAny (model PG w) A (call (.type "str") [v]) Q E s₂) E s)
    (hk : env.scope.kind = .function := by rfl) (hl : env.kindOf (Str.ofString "str") = some .globalImplicit := by rfl) (hg : env.globals = mainGlobals := by rfl) (hb : env.builtins = builtinsNs := by rfl)
    (he : starEach [e] env = [(false, eval e env)] := by rfl) : wpAny (model PG w) A (eval (.Call (.Name (Str.ofString "str") np) [e] [] cpos) env) Q E s := by
  refine wpAny_Call_ofName (Gd.built G (nsIn_str _) boot_str' ?_ (by decide) hk hl hg hb)
  rw [he]
  exact PyProof.Rows.callWith_type rfl (evalArgs_plain (spliced_cons (wpAny_mono h (fun v s₂ h₂ => spliced_nil h₂) fun _ _ x => x)))
theorem callE {f : Value} {args : List Value} {Q : Value → Shared → Prop} {R : Result → Shared → Prop} (x : codeAny (model PG w) A (.call f ⟨args, []⟩) R s)
    (h : ∀ r s', R r s' → ∃ v, r = .error v ∧ E v s') : wpAny (model PG w) A (call f args) Q E s :=
  wpAny_call (codeAny_mono x fun r s' q => by obtain ⟨v, rfl, hq⟩ := h r s' q; exact hq)
end
theorem octets_ok {w : World} {mg mb : Str → Option Value} {A : Around} {s : Shared} {n : Str} {t : Tok} (G : Gd w mg mb s.heap) (R : Rm A 6) (hn : ∀ c ∈ n.cps.toList, c < 128) (hl : n.cps.size < 1000) :
    codeAny (model PG w) A (.call (.ref 85) ⟨[.str n t], []⟩) (fun r s' => ∃ h' tk t', r = .ok (.ret (.bytes (octs n) t')) ∧ s' = { s with heap := h', toks := tk } ∧ Ext Non s.heap h') s := by
  refine codeHide fun R0 hR0 => ?_
  refine call_plain_ret R.d (G.k 85 _ rfl) rfl G.lim (codeRec_of G.k rfl) rfl (locs rfl) (fun h₁ F => ?_)
  have FL : Loc h₁ s.heap.objs.size [(Str.ofString "name", .str n t)] := F.ns
  have E₁ : Ext Non s.heap h₁ := Ext.of F.keep _
  have G₁ : Gd w mg mb h₁ := G.ext E₁ fun _ q => q.elim
  clear F
  refine wpAny_execs_cons (wpAny_Try_except (wpAny_execs_cons (wpAny_Assign_Name (callG (f := 36) G₁ (by kernel_rfl) rfl rfl (args_cons (Loc.name FL rfl (args_nil ⟨G₁, useSpec (bytes_ok G₁ ((R.deeper _).le (by omega)) hn hl) ?_⟩)))))))
  rintro r s' ⟨h₂, tk, t', rfl, rfl, E₂⟩
  have FL₂ := Loc.ext FL E₂ id
  refine ⟨_, rfl, Loc.store FL₂ fun h₃ FL₃ E₃ => wpAny_execs_nil (wpAny_execs_nil ?_)⟩
  have e₃ := (E₁.non E₂).st E₃ (Nat.le_refl _)
  have G₃ : Gd w mg mb h₃ := G.ext e₃ fun _ q => q.elim
  refine wpAny_execs_cons (wpAny_Return_some (wpAny_IfExp (wpAny_isTrue_value (isinst_ (s := { s with heap := h₃, toks := _ }) G₃ (Loc.name FL₃ rfl (Gd.built (s := { s with heap := h₃, toks := _ }) G₃ (nsIn_bytes _) boot_bytes' (isi_bytes_bytes (wpAny_truthy_bool ?_))))))))
  simp only [if_true]
  exact Loc.name FL₃ rfl (hR0 _ _ ⟨h₃, _, t', rfl, rfl, e₃⟩)
theorem octets_bad {w : World} {mg mb : Str → Option Value} {A : Around} {s : Shared} {n : Str} {t : Tok} {outer : List Env} {pre post : List Nat} {c : Nat} (G : Gd w mg mb s.heap) (R : Rm A 6) (hfr : A.frames = some outer) (FS : Fs s.heap outer) (hs : 114 < s.heap.objs.size) (hb : Bs.n ≤ s.heap.objs.size)
    (hx : n.cps.toList = pre ++ c :: post) (hpre : ∀ c ∈ pre, c < 128) (hne : pre ≠ []) (hc : 128 ≤ c) (hl : n.cps.size < 1000) :
    codeAny (model PG w) A (.call (.ref 85) ⟨[.str n t], []⟩) (fun r s' => ∃ h' tk t', r = .ok (.ret (.str refusal t')) ∧ s' = { s with heap := h', toks := tk } ∧ Ext Non s.heap h') s := by
  refine codeHide fun R0 hR0 => ?_
  refine call_plain_ret R.d (G.k 85 _ rfl) rfl G.lim (codeRec_of G.k rfl) rfl (locs rfl) (fun h₁ F => ?_)
  have FL : Loc h₁ s.heap.objs.size [(Str.ofString "name", .str n t)] := F.ns
  have E₁ : Ext Non s.heap h₁ := Ext.of F.keep _
  have G₁ : Gd w mg mb h₁ := G.ext E₁ fun _ q => q.elim
  have hL : Hi s.heap.objs.size := hs
  have hs₁ : 114 < h₁.objs.size := by
    obtain ⟨o, es, ep, ho, _⟩ := FL
    exact Nat.lt_trans hs (Heap.lt_size ho)
  clear F
  have FSa : ∀ {h : Heap} {l}, Ext Non s.heap h → Loc h s.heap.objs.size l → ∀ env : Env, env.frame = some s.heap.objs.size → env.scope.kind ≠ .module → Fs h (env :: outer) := fun x F env hf hk => Fs.cons (FS.non x) hk hf hL hb F
  refine wpAny_execs_cons (wpAny_Try_except (wpAny_execs_cons (wpAny_Assign_Name (callG (f := 36) G₁ (by kernel_rfl) rfl rfl (args_cons (Loc.name FL rfl (args_nil ⟨G₁, callE (bytes_bad G₁ ((R.deeper _).le (by omega)) (Around.frames_deeper hfr) (FSa E₁ FL _ rfl (by show ScopeKind.function ≠ ScopeKind.module; decide)) hs₁ (Nat.le_trans hb (Nat.le_of_lt FL.lt)) hx hpre hne hc hl) ?_⟩)))))))
  rintro r s' ⟨h₂, tk, e, T, t0, tk0, rfl, rfl, E₂, ⟨u, X₂⟩, ht₂, ne₂, nT₂, nt₂⟩
  refine ⟨_, rfl, ?_⟩
  have FL₂ := Loc.ext FL E₂ id
  have e₂ := E₁.non E₂
  have back : ∀ {a : Addr}, h₁.get? a = none → s.heap.get? a = none := fun {a} q => by
    cases z : s.heap.get? a with
    | none => rfl
    | some o => obtain ⟨o', ho', _⟩ := E₁.data z id; rw [q] at ho'; cases ho'
  have notL : ∀ {a : Addr}, h₁.get? a = none → s.heap.objs.size ≠ a := fun {a} q z => by
    obtain ⟨o, es, ep, ho, hd, _⟩ := FL
    rw [z, q] at ho; cases ho
  refine note2 (Around.frames_deeper hfr) (FSa e₂ FL₂ _ rfl (by show ScopeKind.function ≠ ScopeKind.module; decide)) rfl X₂ fun h₃ T' E₃ nT' X₃ => ?_
  have tne : t0 ≠ e := fun q => by
    obtain ⟨oe, vs, he, _, hdd, _⟩ := X₂.ex
    rw [q, he] at ht₂; cases ht₂; cases hdd
  have tnT : t0 ≠ T := fun q => by
    obtain ⟨oe, vs, he, hdd, _⟩ := X₂.tb
    rw [q, he] at ht₂; cases ht₂; cases hdd
  have nT'₁ : h₁.get? T' = none := by
    cases z : h₁.get? T' with
    | none => rfl
    | some o => obtain ⟨o', ho', _⟩ := E₂.data z id; rw [nT'] at ho'; cases ho'
  have e₃ : Ext Non s.heap h₃ := e₂.step E₃ fun a o q z => by
    rcases z with rfl | rfl
    · rw [back ne₂] at q; cases q
    · rw [back nT₂] at q; cases q
  have FL₃ := Loc.ext FL₂ E₃ (fun z => z.elim (notL ne₂) (notL nT₂))
  have ht₃ := E₃.get ht₂ (fun z => z.elim tne tnT) (.inr fun _ _ z => nomatch z)
  have tnT' : t0 ≠ T' := fun q => by rw [q, nT'] at ht₂; cases ht₂
  have go : ∀ {h h' : Heap}, Ext Non s.heap h → Loc h s.heap.objs.size [(Str.ofString "name", .str n t)] → h.get? t0 = some { cls := .type "tuple", data := .seq #[.str refusal tk0] } → Ext (At T') h h' → Ext Non s.heap h' ∧ Loc h' s.heap.objs.size [(Str.ofString "name", .str n t)] ∧ h'.get? t0 = some { cls := .type "tuple", data := .seq #[.str refusal tk0] } := fun x y z q =>
    ⟨x.step q fun a o g k => by (rw [k, back nT'₁] at g; cases g), Loc.ext y q (notL nT'₁), q.get z tnT' (.inr fun _ _ z => nomatch z)⟩
  refine setFl (fr := none) X₃ fun h₄ E₄ X₄ => ?_
  obtain ⟨e₄, FL₄, ht₄⟩ := go e₃ FL₃ ht₃ E₄
  have G₄ : Gd w mg mb h₄ := G.ext e₄ fun _ q => q.elim
  refine wpAny_handleBy_builtin_as (b := true) sub_ve_base meta_ve sub_ve (Gd.built G₄ (nsIn_ve _) boot_ve ⟨rfl, X₄.typeIs, ?_⟩)
  simp only [if_true]
  refine setFl (fr := none) X₄ fun h₅ E₅ X₅ => ?_
  obtain ⟨e₅, FL₅, ht₅⟩ := go e₄ FL₄ ht₄ E₅
  refine Loc.store FL₅ fun h₆ FL₆ E₆ => ?_
  have e₆ := e₅.st E₆ (Nat.le_refl _)
  have G₆ : Gd w mg mb h₆ := G.ext e₆ fun _ q => q.elim
  have X₆ := X₅.ext E₆ (Ne.symm (notL ne₂)) (Ne.symm (notL nT'₁))
  have ht₆ := E₆.get ht₅ (fun q => by
    obtain ⟨o, es, ep, ho, hd, _⟩ := FL₅
    have q' : t0 = s.heap.objs.size := q
    rw [← q', ht₅] at ho; cases ho; cases hd) (.inr fun _ _ z => nomatch z)
  refine wpAny_execs_cons (wpAny_Return_some (str_ (s := { s with heap := h₆, toks := _ }) G₆ (Loc.name FL₆ rfl (P.str_of_exc_one (t0 := t0) (m := refusal) (tk := tk0) F.excStr_ValueError ?_ ?_ ?_ ?_))))
  · have := R.units; show A.units + 3 + 2 < cLine; omega
  · obtain ⟨oe, vs, he, hc, hd, h0, _⟩ := X₆.ex
    exact ⟨oe, vs, he, hc, hd, h0.1⟩
  · exact ⟨_, _, ht₆, rfl, rfl⟩
  · refine wpAny_nameGoes rfl FL₆ rfl fun h₇ m' _ E₇ => ?_
    exact hR0 _ _ ⟨h₇, _, tk0, rfl, rfl, e₆.st (Ext.sameBut E₇ rfl) (Nat.le_refl _)⟩
end Mine
end
section
set_option maxHeartbeats 8000000
open PySem PySem.W PyProof.Rows PySem.Calls PySem.Builtin
namespace Mine
variable [Bs]
/- a feed: an iterator that hands out values of these kinds, in turn, if its keeper only changes things as Lat allows; each pull changes things as Adv says -/
noncomputable def Feed (w : World) (A : Around) (it : Value) (Lat Adv : Shared → Shared → Prop) : List (Value → Prop) → Shared → Prop
  | [], s => ∀ s₁, Lat s s₁ → wpAny (model PG w) A (pyNext it) (fun o s' => o = none ∧ Adv s₁ s') NoE s₁
  | p :: ps, s => ∀ s₁, Lat s s₁ → wpAny (model PG w) A (pyNext it) (fun o s' => (∃ y, o = some y ∧ p y) ∧ Adv s₁ s' ∧ Feed w A it Lat Adv ps s') NoE s₁
theorem noE {M : Model} {A : Around} {α : Type} {m : Sem α} {Q : α → Shared → Prop} {E : Value → Shared → Prop} {s : Shared} (h : wpAny M A m Q NoE s) : wpAny M A m Q E s := wpAny_mono h (fun _ _ q => q) fun _ _ q => q.elim
section
variable {w : World} {A : Around} {E : Value → Shared → Prop} {s : Shared} {env : Env}
theorem forFeed {target : Expr} {it : Value} {body : List Stmt} {Lat Adv : Shared → Shared → Prop} {ps : List (Value → Prop)} {R : Result → Shared → Prop} (F : Feed w A it Lat Adv ps s) (J : Nat → Shared → Prop) (h0 : J 0 s) (hr : Lat s s)
    (step : ∀ i p y s₁ s₂, ps[i]? = some p → p y → J i s₁ → Adv s₁ s₂ → wpAny (model PG w) A (assign target env y) (fun _ s₃ => wpAny (model PG w) A (execs body env) (fun f s₄ => f = .next ∧ J (i + 1) s₄ ∧ Lat s₂ s₄) NoE s₃) NoE s₂)
    (done : ∀ s₁ s₂, J ps.length s₁ → Adv s₁ s₂ → R (.ok .next) s₂) (ht : ∀ v, letOwnedTupleGo target it v = pure () := by intro _; rfl) :
    codeAny (model PG w) A (.forLoop target it body [] env) R s := by
  refine codeAny_forLoop (fun n s' => ∃ i s₀, n = ps.length - i ∧ i ≤ ps.length ∧ J i s' ∧ Lat s₀ s' ∧ Feed w A it Lat Adv (ps.drop i) s₀) ?_ (ps.length - 0) ⟨0, s, rfl, Nat.zero_le _, h0, hr, F⟩ ht
  rintro n s₁ ⟨i, s₀, rfl, hi, hJ, hL, hF⟩
  cases hd : ps.drop i with
  | nil =>
    rw [hd] at hF
    have e : i = ps.length := Nat.le_antisymm hi (by simpa using hd)
    refine noE (wpAny_mono (hF s₁ hL) (fun o s₂ q => ?_) fun _ _ q => q)
    obtain ⟨rfl, ha⟩ := q
    exact wpAny_execs_nil (done s₁ s₂ (e ▸ hJ) ha)
  | cons p qs =>
    rw [hd] at hF
    have hlt : i < ps.length := Nat.lt_of_not_le fun q => by rw [List.drop_eq_nil_of_le q] at hd; cases hd
    have hq : qs = ps.drop (i + 1) := by rw [List.drop_eq_getElem_cons hlt] at hd; cases hd; rfl
    have hp : ps[i]? = some p := by rw [List.drop_eq_getElem_cons hlt] at hd; cases hd; exact List.getElem?_eq_getElem hlt
    refine noE (wpAny_mono (hF s₁ hL) (fun o s₂ q => ?_) fun _ _ q => q)
    obtain ⟨⟨y, rfl, hy⟩, ha, hf⟩ := q
    refine noE (wpAny_mono (step i p y s₁ s₂ hp hy hJ ha) (fun _ s₃ q => noE (wpAny_mono q (fun f s₄ q => ?_) fun _ _ q => q)) fun _ _ q => q)
    obtain ⟨rfl, hJ', hL'⟩ := q
    exact ⟨ps.length - (i + 1), by omega, i + 1, s₂, rfl, hlt, hJ', hL', hq ▸ hf⟩
theorem For_ {target iter : Expr} {body : List Stmt} {pos : Pos} {Q : Flow → Shared → Prop}
    (h : wpAny (model PG w) A (eval iter env) (fun x s₁ => wpAny (model PG w) A (pyIter x) (fun it s₂ => codeAny (model PG w) A (.forLoop target it body [] env) (fun r s' => r = .ok .next ∧ Q .next s') s₂) E s₁) E s)
    (hs : ∀ x, foldedSetIterable iter env x = pure x := by intro _; rfl) : wpAny (model PG w) A (exec (.For target iter body [] pos) env) Q E s :=
  wpAny_For (wpAny_mono h (fun x s₁ q => wpAny_mono q (fun it s₂ q => codeAny_mono q fun r s' q => by obtain ⟨rfl, q⟩ := q; exact q) fun _ _ q => q) fun _ _ q => q) hs
end
/- lists -/
noncomputable def LatL (I l : Addr) (s s' : Shared) : Prop := Ext (fun b => b ≠ I ∧ b ≠ l) s.heap s'.heap
noncomputable def AdvL (I : Addr) (s s' : Shared) : Prop := ∃ h' tk, s' = { s with heap := h', toks := tk } ∧ Ext (At I) s.heap h'
theorem LatL.refl {I l : Addr} (s : Shared) : LatL I l s s := Ext.refl _ _
theorem itExt {X : Addr → Prop} {h h' : Heap} {I l : Addr} {i : Nat} (x : h.IsListIter I l i) (e : Ext X h h') (n : ¬ X I) : h'.IsListIter I l i := by
  obtain ⟨o, ho, hc, hd⟩ := x
  exact ⟨o, e.get ho n (.inr fun _ _ z => nomatch (hd.symm.trans z)), hc, hd⟩
theorem Ls.get {h : Heap} {l : Addr} {xs : List Value} (x : Ls h l xs) : ∃ o, h.get? l = some o ∧ o.cls = .type "list" := let ⟨_, e⟩ := x; ⟨_, e, rfl⟩
noncomputable abbrev eqs (vs : List Value) : List (Value → Prop) := vs.map fun v x => x = v
section
variable {w : World} {A : Around} {E : Value → Shared → Prop} {s : Shared} {env : Env}
theorem listFeed' {I l : Addr} {vs : List Value} (hh : A.handled = none) : ∀ (n i : Nat) (s : Shared), n = vs.length - i → i ≤ vs.length → Ls s.heap l vs → s.heap.IsListIter I l i → Feed w A (.ref I) (LatL I l) (AdvL I) (eqs (vs.drop i)) s
  | 0, i, s, hn, hi, hl, hit => by
    have e : vs.drop i = [] := List.drop_eq_nil_of_le (by omega)
    rw [e]
    intro s₁ hL
    have hl₁ := Ls.ext hl hL fun q => q.2 rfl
    refine wpAny_pyNext_list_end hh (itExt hit hL fun q => q.1 rfl) hl₁.isList (by simp; omega) fun h' x => ⟨rfl, h', s₁.toks, rfl, fun b o e n => ⟨o.slots, x b o n e, fun _ => rfl⟩⟩
  | n + 1, i, s, hn, hi, hl, hit => by
    have hlt : i < vs.length := by omega
    rw [List.drop_eq_getElem_cons hlt]
    intro s₁ hL
    have hl₁ := Ls.ext hl hL fun q => q.2 rfl
    have hit₁ := itExt hit hL fun q => q.1 rfl
    refine wpAny_pyNext_list_item (x := vs[i]) hit₁ hl₁.isList (by simp [hlt]) fun h' x y => ?_
    have ne : l ≠ I := fun q => by
      obtain ⟨o, ho, hc, _⟩ := hit₁
      obtain ⟨o', ho', hc'⟩ := hl₁.get
      rw [q] at ho'; rw [ho] at ho'; cases ho'; rw [hc] at hc'; exact absurd hc' (by decide)
    have z : Ext (At I) s₁.heap h' := Ext.sameBut y rfl
    exact ⟨⟨_, rfl, rfl⟩, ⟨h', s₁.toks, rfl, z⟩, listFeed' hh n (i + 1) _ (by omega) hlt (hl₁.ext z ne) x⟩
theorem listFeed {I l : Addr} {vs : List Value} (hh : A.handled = none) (hl : Ls s.heap l vs) (hit : s.heap.IsListIter I l 0) : Feed w A (.ref I) (LatL I l) (AdvL I) (eqs vs) s := by
  have := listFeed' (w := w) hh vs.length 0 s rfl (Nat.zero_le _) hl hit
  rwa [List.drop_zero] at this
/- iterating a list: what is new is the iterator -/
theorem iterL {l : Addr} {vs : List Value} {Q : Value → Shared → Prop} (hh : A.handled = none) (hl : Ls s.heap l vs)
    (h : ∀ I h', s.heap.get? I = none → Ext Non s.heap h' → Ls h' l vs → h'.IsListIter I l 0 → Feed w A (.ref I) (LatL I l) (AdvL I) (eqs vs) { s with heap := h' } → Q (.ref I) { s with heap := h' }) :
    wpAny (model PG w) A (pyIter (.ref l)) Q E s := by
  refine wpAny_pyIter_list hl.isList (h _ _ (Heap.get?_none_of_le (Nat.le_refl _)) (Ext.push _ _ _) (hl.ext (Ext.push Non _ _) id) ⟨_, Heap.get?_push_size _ rfl, rfl, rfl⟩ (listFeed hh (hl.ext (Ext.push Non _ _) id) ⟨_, Heap.get?_push_size _ rfl, rfl, rfl⟩))
end
/- ranges -/
noncomputable def LatR (I : Addr) (s s' : Shared) : Prop := Ext (fun b => b ≠ I) s.heap s'.heap
theorem LatR.refl {I : Addr} (s : Shared) : LatR I s s := Ext.refl _ _
noncomputable abbrev upto (n : Nat) : List (Value → Prop) := (List.range n).map fun (i : Nat) x => ∃ t, x = .int (i : Nat) t
section
variable {w : World} {A : Around} {E : Value → Shared → Prop} {s : Shared} {env : Env}
theorem rangeFeed' {I : Addr} {N : Nat} (hh : A.handled = none) : ∀ (n i : Nat) (s : Shared), n = N - i → i ≤ N → IsRangeIter s.heap I i ((N - i : Nat) : Int) 1 → Feed w A (.ref I) (LatR I) (AdvL I) (((List.range N).drop i).map fun (i : Nat) x => ∃ t, x = .int (i : Nat) t) s
  | 0, i, s, hn, hi, hit => by
    have e : (List.range N).drop i = [] := List.drop_eq_nil_of_le (by simp; omega)
    rw [e]
    intro s₁ hL
    have hit₁ : IsRangeIter s₁.heap I i ((N - i : Nat) : Int) 1 := hL.get hit (fun q => q rfl) (.inr fun _ _ z => nomatch z)
    exact wpAny_pyNext_range_end hh hit₁ (by omega) fun h' x => ⟨rfl, h', s₁.toks, rfl, fun b o e n => ⟨o.slots, x b o n e, fun _ => rfl⟩⟩
  | n + 1, i, s, hn, hi, hit => by
    have hlt : i < (List.range N).length := by simp; omega
    rw [List.drop_eq_getElem_cons hlt]
    intro s₁ hL
    have hit₁ : IsRangeIter s₁.heap I i ((N - i : Nat) : Int) 1 := hL.get hit (fun q => q rfl) (.inr fun _ _ z => nomatch z)
    refine wpAny_pyNext_range_item hit₁ (by omega) fun h' x y => ?_
    have e1 : ((i : Nat) : Int) + 1 = ((i + 1 : Nat) : Int) := by omega
    have e2 : ((N - i : Nat) : Int) - 1 = ((N - (i + 1) : Nat) : Int) := by omega
    rw [e1, e2] at x
    exact ⟨⟨_, rfl, s₁.toks, by simp⟩, ⟨h', _, rfl, Ext.sameBut y rfl⟩, rangeFeed' hh n (i + 1) _ (by omega) (by omega) x⟩
theorem rangeFeed {I : Addr} {N : Nat} (hh : A.handled = none) (hit : IsRangeIter s.heap I 0 (N : Int) 1) : Feed w A (.ref I) (LatR I) (AdvL I) (upto N) s := by
  have := rangeFeed' (w := w) hh N 0 s rfl (Nat.zero_le _) hit
  rwa [List.drop_zero] at this
theorem iterR {r : Addr} {N : Nat} {t u v : Tok} {Q : Value → Shared → Prop} (hh : A.handled = none) (hr : IsRange s.heap r 0 (N : Nat) 1 t u v) (hN : N < 2 ^ 30)
    (h : ∀ I h', s.heap.get? I = none → Ext Non s.heap h' → IsRangeIter h' I 0 (N : Nat) 1 → Feed w A (.ref I) (LatR I) (AdvL I) (upto N) { s with heap := h' } → Q (.ref I) { s with heap := h' }) :
    wpAny (model PG w) A (pyIter (.ref r)) Q E s := by
  have e : Builtin.Range.rangeSize 0 (N : Nat) 1 = (N : Int) := by rw [rangeSize_one]; split <;> omega
  refine wpAny_pyIter_range hr (small_one (by omega) (by omega) (by omega) (by omega)) ?_
  rw [e]
  have hi : IsRangeIter (s.heap.push { cls := .type "range_iterator", data := .fields #[rawInt 0, rawInt (N : Nat), rawInt 1] }) s.heap.objs.size 0 (N : Nat) 1 := Heap.get?_push_size _ rfl
  exact h _ _ (Heap.get?_none_of_le (Nat.le_refl _)) (Ext.push _ _ _) hi (rangeFeed (s := { s with heap := s.heap.push { cls := .type "range_iterator", data := .fields #[rawInt 0, rawInt (N : Nat), rawInt 1] } }) hh hi)
end
end Mine
end
section
set_option maxHeartbeats 8000000
open PySem PySem.W PyProof.Rows PySem.Calls PySem.Builtin
namespace Mine
variable [Bs]
section
variable {w : World} {A : Around} {E : Value → Shared → Prop} {s : Shared} {env : Env}
theorem callAppend {l : Addr} {xs : List Value} {v : Value} {Q : Value → Shared → Prop} (hl : Ls s.heap l xs) (hlen : xs.length < 2 ^ 22)
    (hQ : ∀ h', Ls h' l (xs ++ [v]) → Ext (At l) s.heap h' → Q .none { s with heap := h' }) : wpAny (model PG w) A (call (.builtin "list.append") [.ref l, v]) Q E s := by
  obtain ⟨y, z⟩ := hl.upd (f := fun a => a.push v) (ys := xs ++ [v]) (by simp)
  refine wpAny_call_entry slot_list_append hl.isList.typeIs entry_list_append ?_ (args_list_append _ _)
  show wpAny _ _ (updateSeq l (·.push v) >>= fun _ => ret .none) _ _ s
  obtain ⟨n, ho⟩ := hl
  exact wpAny_bind (wpAny_updateSeq ho rfl (wpAny_pure ⟨.none, rfl, hQ _ y z⟩) (by rw [List.size_toArray, sizeLine_eq]; omega))
/- a state that a comprehension may leave behind one turn -/
noncomputable abbrev tests (ifs : List Expr) (env : Env) : Sem Bool := forIn ifs true fun c r => if r = true then do let ok ← isTrue c env (eval c env); pure (ForInStep.yield ok) else pure (ForInStep.yield r)
structure CompOk (w : World) (A : Around) (env : Env) (x : Str) (ifs : List Expr) (elt : Expr) (scope : Scope) (cl : List (Str × Addr)) (C D : Addr) (Lat Adv : Shared → Shared → Prop) (ps : List (Value → Prop)) (J : Nat → List Value → Shared → Prop) (s₂ : Shared) (Fin : Shared → Prop) : Prop where
  kp : ∀ s s', Adv s s' → (∀ ys, Ls s.heap D ys → Ls s'.heap D ys) ∧ (∀ m, s.heap.Ns C m → s'.heap.Ns C m)
  z : ∀ h tk, Ext Non s₂.heap h → Ls h D [] → (∃ m, h.Ns C m) → J 0 [] { s₂ with heap := h, toks := tk } ∧ Lat s₂ { s₂ with heap := h, toks := tk }
  step : ∀ i p y ys s₁ s₃, ps[i]? = some p → p y → J i ys s₁ → Adv s₁ s₃ → Ls s₃.heap D ys → (∃ m, s₃.heap.Ns C m) → ∀ h₃ tk m, h₃.Ns C m → m x = some y → Ext (At C) s₃.heap h₃ → Ls h₃ D ys →
    wpAny (model PG w) A (tests ifs (compEnvC scope cl C env)) (fun ok s₄ => if ok = true then wpAny (model PG w) A (eval elt (compEnvC scope cl C env)) (fun v s₅ => Ls s₅.heap D ys ∧ (∃ m, s₅.heap.Ns C m) ∧
        ∀ h₆, Ls h₆ D (ys ++ [v]) → Ext (At D) s₅.heap h₆ → J (i + 1) (ys ++ [v]) { s₅ with heap := h₆ } ∧ Lat s₃ { s₅ with heap := h₆ }) NoE s₄
      else Ls s₄.heap D ys ∧ (∃ m, s₄.heap.Ns C m) ∧ J (i + 1) ys s₄ ∧ Lat s₃ s₄) NoE { s₃ with heap := h₃, toks := tk }
  fin : ∀ ys s₁ s₃, J ps.length ys s₁ → Adv s₁ s₃ → Ls s₃.heap D ys → (∃ m, s₃.heap.Ns C m) → Fin s₃
theorem compBlock {elt iter : Expr} {x : Str} {px : Pos} {ifs : List Expr} {scope : Scope} {cl : List (Str × Addr)} {pos : Pos} {s₂ : Shared} {it : Value} {Lat Adv : Shared → Shared → Prop} {ps : List (Value → Prop)} {RR : Value → Addr → Result → Shared → Prop}
    (hcell : ∀ y ∈ scope.names, y.2 ≠ .cell) (hkind : scope.kind = .function) (hx : scope.names.lookup x = some .local) (F : Feed w A it Lat Adv ps s₂) (hlen : ps.length < 2 ^ 20)
    (hself : ∀ (s : Shared) (Q : Value → Shared → Prop) (E : Value → Shared → Prop), Ext Non s₂.heap s.heap → Q it s → wpAny (model PG w) A (pyIter it) Q E s)
    (h : ∀ C D, s₂.heap.get? C = none → s₂.heap.get? D = none → D ≠ C → D = s₂.heap.objs.size → C = s₂.heap.objs.size + 1 → ∃ J, CompOk w A env x ifs elt scope cl C D Lat Adv ps J s₂ (RR (.ref D) C (.ok .next))) :
    wpAny (model PG w) A (newList []) (fun acc s₃ => wpAny (model PG w) A (newFunctionEnv scope env.globals cl [] env.qual none .none (some env)) (fun cenv s₄ =>
      codeAny (model PG w) A (.compStart (.ListComp elt [⟨.Name x px, iter, ifs, 0⟩] scope pos) 0 it acc { cenv with scope := relabel scope env }) (RR acc cenv.locals) s₄) E s₃) E s₂ := by
  refine wpAny_newObj_type (wpAny_newFunctionEnv hcell (by intro y hy; simp at hy) (fun h₁ hns₁ hsb₁ => ?_) hkind)
  dsimp only at hns₁ hsb₁ ⊢
  generalize hH2 : s₂.heap.push { cls := .type "list", dict := none, data := .seq ([] : List Value).toArray } = H2 at hns₁ hsb₁ ⊢
  have hC : H2.objs.size = s₂.heap.objs.size + 1 := by rw [← hH2, Heap.size_push]
  have hDC : s₂.heap.objs.size ≠ H2.objs.size := by rw [hC]; exact Nat.ne_of_lt (Nat.lt_succ_self _)
  obtain ⟨J, K⟩ := h H2.objs.size s₂.heap.objs.size (Heap.get?_none_of_le (by rw [hC]; omega)) (Heap.get?_none_of_le (Nat.le_refl _)) hDC rfl hC
  have old : ∀ b o, s₂.heap.get? b = some o → h₁.get? b = some o := fun b o e => hsb₁.extBut b o (by rw [hC]; exact Nat.ne_of_lt (Nat.lt_succ_of_lt (Heap.lt_size e))) (Heap.get?_push_of_some _ (hH2 ▸ Heap.get?_push_of_some _ e))
  have hE : Ext Non s₂.heap h₁ := Ext.of old _
  have hD : Ls h₁ s₂.heap.objs.size [] := ⟨_, hsb₁.extBut _ _ hDC (Heap.get?_push_of_some _ (hH2 ▸ Heap.get?_push_size _ rfl))⟩
  have loop : ∀ s₃ : Shared, s₃ = { s₂ with heap := h₁, toks := s₂.toks + ([] : List (Str × Value)).length } →
      codeAny (model PG w) A (.compLoop (.ListComp elt [⟨.Name x px, iter, ifs, 0⟩] scope pos) 0 it (.ref s₂.heap.objs.size) (compEnvC scope cl H2.objs.size env))
        (RR (.ref s₂.heap.objs.size) H2.objs.size) s₃ := by
    rintro s₃ rfl
    obtain ⟨j0, l0⟩ := K.z h₁ (s₂.toks + ([] : List (Str × Value)).length) hE hD ⟨_, hns₁⟩
    refine codeAny_compLoop_tests (fun n s' => ∃ i ys s₀, n = ps.length - i ∧ i ≤ ps.length ∧ ys.length ≤ i ∧ J i ys s' ∧ Ls s'.heap s₂.heap.objs.size ys ∧ (∃ m, s'.heap.Ns H2.objs.size m) ∧ Lat s₀ s' ∧ Feed w A it Lat Adv (ps.drop i) s₀) ?_ (ps.length - 0)
      ⟨0, [], s₂, rfl, Nat.zero_le _, Nat.le_refl _, j0, hD, ⟨_, hns₁⟩, l0, F⟩ (by intro _; rfl)
    rintro n s₁ ⟨i, ys, s₀, rfl, hi, hy, hJ, hL, ⟨m, hm⟩, hlat, hF⟩
    cases hd : ps.drop i with
    | nil =>
      rw [hd] at hF
      have e : i = ps.length := Nat.le_antisymm hi (by simpa using hd)
      refine noE (wpAny_mono (hF s₁ hlat) (fun o s₃ q => ?_) fun _ _ q => q)
      obtain ⟨rfl, ha⟩ := q
      exact K.fin ys s₁ s₃ (e ▸ hJ) ha ((K.kp _ _ ha).1 _ hL) ⟨m, (K.kp _ _ ha).2 _ hm⟩
    | cons p qs =>
      rw [hd] at hF
      have hlt : i < ps.length := Nat.lt_of_not_le fun q => by rw [List.drop_eq_nil_of_le q] at hd; cases hd
      have hq : qs = ps.drop (i + 1) := by rw [List.drop_eq_getElem_cons hlt] at hd; cases hd; rfl
      have hp : ps[i]? = some p := by rw [List.drop_eq_getElem_cons hlt] at hd; cases hd; exact List.getElem?_eq_getElem hlt
      refine noE (wpAny_mono (hF s₁ hlat) (fun o s₃ q => ?_) fun _ _ q => q)
      obtain ⟨⟨y, rfl, hpy⟩, ha, hf⟩ := q
      have hL₃ := (K.kp _ _ ha).1 _ hL
      refine wpAny_assign_Name (wpAny_storeName_local (lookup_relabel_local hx) ((K.kp _ _ ha).2 _ hm) (fun h₃ hn₃ hs₃ => ?_) (by simp [compEnvC, relabel, hkind]))
      have x₃ : Ext (At H2.objs.size) s₃.heap h₃ := Ext.sameBut hs₃ rfl
      refine noE (wpAny_mono (K.step i p y ys s₁ s₃ hp hpy hJ ha hL₃ ⟨_, (K.kp _ _ ha).2 _ hm⟩ h₃ _ _ hn₃ (by simp) x₃ (hL₃.ext x₃ hDC)) (fun ok s₄ q => ?_) fun _ _ q => q)
      cases ok with
      | false =>
        obtain ⟨hL₄, hm₄, hJ₄, hl₄⟩ := q
        exact ⟨ps.length - (i + 1), by omega, i + 1, ys, s₃, rfl, hlt, by omega, hJ₄, hL₄, hm₄, hl₄, hq ▸ hf⟩
      | true =>
        refine noE (wpAny_mono q (fun v s₅ q => ?_) fun _ _ q => q)
        obtain ⟨hL₅, ⟨m₅, hm₅⟩, q⟩ := q
        refine callAppend hL₅ (by omega) fun h₆ hL₆ x₆ => ?_
        obtain ⟨hJ₆, hl₆⟩ := q h₆ hL₆ x₆
        exact ⟨ps.length - (i + 1), by omega, i + 1, ys ++ [v], s₃, rfl, hlt, by simp; omega, hJ₆, hL₆, ⟨m₅, x₆.ns hm₅ (Ne.symm hDC)⟩, hl₆, hq ▸ hf⟩
  exact codeAny_compStart_list (loop _ rfl) (hself _ _ _ hE (loop _ rfl))
inductive Comp1 [Bs] (w : World) (A : Around) (it : Value) (s₂ : Shared) (Q : Value → Shared → Prop) (env : Env) (x : Str) (ifs : List Expr) (elt : Expr) (scope : Scope) (cl : List (Str × Addr)) : Prop
  | mk (Lat : _) (Adv : _) (ps : _) (e0 : Feed w A it Lat Adv ps s₂) (e1 : ps.length < 2 ^ 20) (e2 : (∀ (s : Shared) (Q : Value → Shared → Prop) (E : Value → Shared → Prop), Ext Non s₂.heap s.heap → Q it s → wpAny (model PG w) A (pyIter it) Q E s)) (e3 : ∀ C D, s₂.heap.get? C = none → s₂.heap.get? D = none → D ≠ C → D = s₂.heap.objs.size → C = s₂.heap.objs.size + 1 → ∃ J, CompOk w A env x ifs elt scope cl C D Lat Adv ps J s₂ (fun s' => ∀ h', Heap.SameBut C s'.heap h' → Q (.ref D) { s' with heap := h' })) : Comp1 w A it s₂ Q env x ifs elt scope cl
theorem comp_ {elt iter : Expr} {x : Str} {px : Pos} {ifs : List Expr} {scope : Scope} {cl : List (Str × Addr)} {pos : Pos} {Q : Value → Shared → Prop}
    (hclos : closureFor scope env = pure cl) (hcell : ∀ y ∈ scope.names, y.2 ≠ .cell) (hkind : scope.kind = .function) (hnames : ∀ y ∈ scope.names, y.2 = .local → scope.names.lookup y.1 = some .local) (hx : scope.names.lookup x = some .local)
    (h : wpAny (model PG w) A (eval iter env) (fun xv s₁ => wpAny (model PG w) A (pyIter xv) (fun it s₂ => Comp1 w A it s₂ Q env x ifs elt scope cl) E s₁) E s)
    (hs : ∀ x, foldedSetIterable iter env x = pure x := by intro _; rfl) :
    wpAny (model PG w) A (eval (.ListComp elt [⟨.Name x px, iter, ifs, 0⟩] scope pos) env) Q E s := by
  rw [eval_ListComp]
  refine wpAny_comprehension_free (use := none) rfl hs hclos hkind hnames (wpAny_mono h (fun xv s₁ h₁ => wpAny_mono h₁ (fun it s₂ h₂ => ?_) fun _ _ e => e) fun _ _ e => e)
  obtain ⟨Lat, Adv, ps, F, hlen, hself, h₂⟩ := h₂
  refine compBlock (RR := fun acc C => compPost (model PG w) A E none Q acc C) hcell hkind hx F hlen hself fun C D hC hD hDC hDs hCs => ?_
  obtain ⟨J, K⟩ := h₂ C D hC hD hDC hDs hCs
  exact ⟨J, K.kp, K.z, K.step, fun ys s₁ s₃ a b c d => let ⟨m, hm⟩ := d; ⟨m, hm, K.fin ys s₁ s₃ a b c d⟩⟩
inductive ACom1 [Bs] (w : World) (A : Around) (it : Value) (s₂ : Shared) (Q : Flow → Shared → Prop) (env : Env) (x : Str) (ifs : List Expr) (elt : Expr) (scope : Scope) (cl : List (Str × Addr)) (l : List (Str × Value)) (y : Str) : Prop
  | mk (Lat : _) (Adv : _) (ps : _) (e0 : Feed w A it Lat Adv ps s₂) (e1 : ps.length < 2 ^ 20) (e2 : (∀ (s : Shared) (Q : Value → Shared → Prop) (E : Value → Shared → Prop), Ext Non s₂.heap s.heap → Q it s → wpAny (model PG w) A (pyIter it) Q E s)) (e3 : (∃ o, s₂.heap.get? env.locals = some o)) (e4 : ∀ C D, s₂.heap.get? C = none → s₂.heap.get? D = none → D ≠ C → D = s₂.heap.objs.size → C = s₂.heap.objs.size + 1 → ∃ J, CompOk w A env x ifs elt scope cl C D Lat Adv ps J s₂ (fun s' => Loc s'.heap env.locals l ∧         ∀ h', Loc h' env.locals ((y, .ref D) :: l) → Ext (fun b => b = env.locals ∨ b = C) s'.heap h' → Q .next { s' with heap := h', toks := s'.toks + 1 })) : ACom1 w A it s₂ Q env x ifs elt scope cl l y
theorem AssignComp_ {elt iter : Expr} {x y : Str} {px py : Pos} {ifs : List Expr} {scope : Scope} {cl : List (Str × Addr)} {pos spos : Pos} {Q : Flow → Shared → Prop} {l : List (Str × Value)}
    (hsw : swapsWith (.ListComp elt [⟨.Name x px, iter, ifs, 0⟩] scope pos) (some (.Name y py)) spos.line env = pure true)
    (hclos : closureFor scope env = pure cl) (hcell : ∀ y ∈ scope.names, y.2 ≠ .cell) (hkind : scope.kind = .function) (hnames : ∀ y ∈ scope.names, y.2 = .local → scope.names.lookup y.1 = some .local) (hx : scope.names.lookup x = some .local)
    (h : wpAny (model PG w) A (eval iter env) (fun xv s₁ => wpAny (model PG w) A (pyIter xv) (fun it s₂ => ACom1 w A it s₂ Q env x ifs elt scope cl l y) E s₁) E s)
    (hs : ∀ x, foldedSetIterable iter env x = pure x := by intro _; rfl)
    (hk : env.scope.kind = .function := by rfl) (hl : env.kindOf y = some .local := by rfl) :
    wpAny (model PG w) A (exec (.Assign [.Name y py] (.ListComp elt [⟨.Name x px, iter, ifs, 0⟩] scope pos) spos) env) Q E s := by
  rw [exec_Assign_Name_used _ _ _ _ hsw]
  refine wpAny_bind (wpAny_standAt (wpAny_bind ?_))
  show wpAny _ A (do let _ ← comprehension (.ListComp elt [⟨.Name x px, iter, ifs, 0⟩] scope pos) scope env _ (newList []) false (eval iter env) (some (assign (.Name y py) env))) _ _ s
  refine wpAny_bind (wpAny_mono (wpAny_comprehension_free (use := some (assign (.Name y py) env)) (Q := fun _ s' => Q .next s') rfl hs hclos hkind hnames
    (wpAny_mono h (fun xv s₁ h₁ => wpAny_mono h₁ (fun it s₂ h₂ => ?_) fun _ _ e => e) fun _ _ e => e)) (fun _ s' hq => wpAny_pure (wpAny_pure hq)) fun _ _ e => e)
  obtain ⟨Lat, Adv, ps, F, hlen, hself, ⟨oL, hoL⟩, h₂⟩ := h₂
  refine compBlock (RR := fun acc C => compPost (model PG w) A E (some (assign (.Name y py) env)) (fun _ s' => Q .next s') acc C) hcell hkind hx F hlen hself fun C D hC hD hDC hDs hCs => ?_
  obtain ⟨J, K⟩ := h₂ C D hC hD hDC hDs hCs
  have hLC : env.locals ≠ C := by rintro q; rw [q, hC] at hoL; cases hoL
  refine ⟨J, K.kp, K.z, K.step, fun ys s₁ s₃ a b c d => ?_⟩
  obtain ⟨m, hm⟩ := d
  obtain ⟨hF, hQ⟩ := K.fin ys s₁ s₃ a b c ⟨m, hm⟩
  show wpAny _ A (assign (.Name y py) env (.ref D)) _ _ _
  refine wpAny_assign_Name (Loc.store hF (fun h₂ hF₂ x₂ => ⟨m, x₂.ns hm (Ne.symm hLC), fun h₃ hs₃ => ?_⟩) hk hl)
  have x₃ : Ext (At C) h₂ h₃ := Ext.sameBut hs₃ rfl
  exact hQ h₃ (hF₂.ext x₃ hLC) ((x₂.mono fun _ q => .inl q).trans (x₃.mono fun _ q => .inr q))
end
end Mine
end
section
set_option maxHeartbeats 8000000
open PySem PySem.W PyProof.Rows PySem.Calls PySem.Builtin PySem.Builtin.ObjectAttr
namespace Mine
variable [Bs]
theorem slot_fn_sa : Slot "function" "__setattr__" "object.__setattr__" := .of (owner := "object") (n := "__setattr__") (by rw [typeLookup_type, builtinLookup_eq_fast]; kernel_rfl) (by decide +kernel) (by decide +kernel) (by decide +kernel)
    (by first | exact .inl (by decide +kernel) | exact .inr (by decide +kernel)) (by rw [isSubtype_type]; kernel_rfl)
theorem args_sa (a b c : Value) : argsOk "object.__setattr__" ⟨[a, b, c], []⟩ := by unfold argsOk; kernel_rfl
theorem mro_fn : mroOf (.type "function") = pure [.type "function", .type "object"] := by kernel_rfl
theorem passes_fn (self : Value) : refuseLoop self "__setattr__" [.type "function", .type "object"] = pure () := by kernel_rfl
theorem lk_fn_tag : typeLookup (.type "function") (Str.ofString "tag") = pure none := by rw [typeLookup_type, builtinLookup_eq_fast]; kernel_rfl
theorem lk_fn_iter : typeLookup (.type "function") (Str.ofString "iter") = pure none := by rw [typeLookup_type, builtinLookup_eq_fast]; kernel_rfl
theorem lk_fn_root : typeLookup (.type "function") (Str.ofString "root") = pure none := by rw [typeLookup_type, builtinLookup_eq_fast]; kernel_rfl
theorem lk_fn_pm : typeLookup (.type "function") (Str.ofString "parent_map") = pure none := by rw [typeLookup_type, builtinLookup_eq_fast]; kernel_rfl
theorem lk_fn_ga : typeLookup (.type "function") (Str.ofString "__getattribute__") = pure (some (.builtin "object.__getattribute__")) := by rw [typeLookup_type, builtinLookup_eq_fast]; kernel_rfl
theorem slot_fn_ga : Slot "function" "__getattribute__" "object.__getattribute__" := .of (owner := "object") (n := "__getattribute__") (by rw [typeLookup_type, builtinLookup_eq_fast]; kernel_rfl) (by decide +kernel) (by decide +kernel) (by decide +kernel)
    (by first | exact .inl (by decide +kernel) | exact .inr (by decide +kernel)) (by rw [isSubtype_type]; kernel_rfl)
theorem args_ga (a b : Value) : argsOk "object.__getattribute__" ⟨[a, b], []⟩ := by unfold argsOk; kernel_rfl
theorem entry_ga : entryFor table "object.__getattribute__" = some Builtin.«object.__getattribute__» := entryFor_of_tree (by kernel_rfl)
/- a function object and its own names -/
noncomputable def Fn (h : Heap) (f : Addr) (fd : FuncData) (m : Str → Option Value) : Prop :=
  ∃ o, h.get? f = some o ∧ o.cls = .type "function" ∧ o.data = .func fd ∧ ((o.dict = none ∧ ∀ n, m n = none) ∨ ∃ d, o.dict = some d ∧ d ≠ f ∧ Hi d ∧ h.Ns1 d m)
section
variable {w : World} {A : Around} {E : Value → Shared → Prop} {s : Shared} {env : Env}
theorem setFn {f : Addr} {fd : FuncData} {m : Str → Option Value} {name : Str} {v : Value} {ns : List Str} {Q : Unit → Shared → Prop} (F : Fn s.heap f fd m) (hB : typeLookup (.type "function") name = pure none) (hs : 114 < s.heap.objs.size)
    (hw : Within m ns) (hsz : ns.length < 10)
    (hq : ∀ h' tk X, Fn h' f fd (fun y => if y = name then some v else m y) → Ext X s.heap h' → (∀ b, X b → b = f ∨ ∃ o, s.heap.get? f = some o ∧ o.dict = some b) →
      (∀ o d, h'.get? f = some o → o.dict = some d → (∃ o₀, s.heap.get? f = some o₀ ∧ o₀.dict = some d) ∨ s.heap.objs.size ≤ d) → Q () { s with heap := h', toks := tk }) :
    wpAny (model PG w) A (setAttr (.ref f) name v) Q E s := by
  obtain ⟨h, g, d, t, os⟩ := s
  obtain ⟨o, ho, hc, hd, hm⟩ := F
  have hT : Shared.TypeIs ⟨h, g, d, t + 1, os⟩ (.ref f) "function" := ⟨o, ho, hc⟩
  have hT0 : Shared.TypeIs ⟨h, g, d, t, os⟩ (.ref f) "function" := ⟨o, ho, hc⟩
  unfold setAttr
  refine wpAny_bind (wpAny_mkText (wpAny_bind (wpAny_callSpecial?_slot hT slot_fn_sa (wpAny_call_entry slot_fn_sa hT PySem.F.entry_object_sa ?_ (args_sa _ _ _)))))
  have hpass := passes_fn (.ref f)
  unfold Builtin.«object.__setattr__»
  repeat (first | rw [refuse_eq] | rw [mro_fn] | rw [hpass] | rw [hB] | (with_reducible refine wpAny_loadPart_at ho ?_; rw [hc]) | wp_step)
  dsimp only at ho hs hq ⊢
  have hfr := (Heap.get?_some_iff.mp ho).2
  rcases hm with ⟨hdn, hmA⟩ | ⟨dx, hdx, hne, hhi, hns⟩
  · rw [hdn, if_neg (show ¬ ((!true || !typeHasDict (Value.type "function")) = true) by decide +kernel), hd]
    have hx₁ : (h.push { cls := .type "dict", data := .dict #[] }).get? f = some o := Heap.get?_push_of_some _ ho
    have hxs : f ≠ h.objs.size := Nat.ne_of_lt (Heap.lt_size ho)
    refine wpAny_bind (wpAny_alloc' (wpAny_bind (wpAny_update' hx₁ ?_)))
    have e : dictMade (Value.type "function") f h.objs.size = pure (some h.objs.size) := by kernel_rfl
    rw [e]
    refine wpAny_pure ?_
    have hgd : ((h.push { cls := .type "dict", data := .dict #[] }).update f fun o => { cls := o.cls, dict := some h.objs.size, data := o.data, slots := o.slots }).get? h.objs.size
        = some { cls := .type "dict", data := .dict #[] } := (Heap.get?_update_ne _ _ _ _ hxs.symm).trans (Heap.get?_push_at rfl rfl)
    have hnd : ((h.push { cls := .type "dict", data := .dict #[] }).update f fun o => { cls := o.cls, dict := some h.objs.size, data := o.data, slots := o.slots }).Ns h.objs.size (fun _ => none) :=
      ⟨_, #[], _, hgd, rfl, fun e he => absurd he (by simp), fun _ => rfl⟩
    show wpAny _ _ (storeInDict h.objs.size (.str name _) name v) _ _ _
    unfold storeInDict newKeyGuard
    refine wpAny_bind (wpAny_pure (wpAny_bind (wpAny_nsSet1 (Heap.Ns1.of_empty hnd) fun h' hn' hs' => ?_)))
    obtain ⟨oD, esD, epD, hoD, hdD, hcD⟩ := hn'.count (Within.cons name v Within.nil)
    refine wpAny_bind (wpAny_lookBehind hoD (by rw [hdD]; exact pastItsLine_dict (Nat.le_trans hcD (by rw [List.length_cons, List.length_nil, sizeLine_eq]; omega))) ?_)
    refine wpAny_pure ⟨_, rfl, wpAny_pure ?_⟩
    have hx' : h'.get? f = some { cls := o.cls, dict := some h.objs.size, data := o.data, slots := o.slots } := by
      refine (hs'.2 f hxs).trans (Heap.get?_update_self _ hx₁ ?_)
      obtain ⟨oc, od, odt, osl⟩ := o
      cases odt <;> first | rfl | exact hfr
    refine hq h' _ (At f) ⟨_, hx', hc, hd, .inr ⟨h.objs.size, rfl, hxs.symm, hs, ?_⟩⟩ (fun b ob hb n => ⟨ob.slots, ?_, fun _ => rfl⟩) (fun b q => .inl q) fun o' d a b => .inr (by rw [hx'] at a; cases a; cases b; exact Nat.le_refl _)
    · obtain ⟨o', es, ep, e1, e2, e3, eu, e4⟩ := hn'
      exact ⟨o', es, ep, e1, e2, e3, eu, fun y => by rw [e4 y]; by_cases hy : y = name <;> simp [hy, hmA]⟩
    · exact (hs'.2 b (Nat.ne_of_lt (Heap.lt_size hb))).trans ((Heap.get?_update_ne _ _ _ _ n).trans (Heap.get?_push_of_some _ hb))
  · rw [hdx]
    refine wpAny_pure ?_
    show wpAny _ _ (storeInDict dx (.str name _) name v) _ _ _
    unfold storeInDict newKeyGuard
    refine wpAny_bind (wpAny_pure (wpAny_bind (wpAny_nsSet1 hns fun h' hn' hs' => ?_)))
    obtain ⟨oD, esD, epD, hoD, hdD, hcD⟩ := hn'.count (Within.cons name v hw)
    refine wpAny_bind (wpAny_lookBehind hoD (by rw [hdD]; exact pastItsLine_dict (Nat.le_trans hcD (by rw [List.length_cons, sizeLine_eq]; omega))) ?_)
    refine wpAny_pure ⟨_, rfl, wpAny_pure ?_⟩
    exact hq h' _ (At dx) ⟨o, (hs'.2 f hne.symm).trans ho, hc, hd, .inr ⟨dx, hdx, hne, hhi, hn'⟩⟩ (Ext.sameBut hs' rfl) (fun b q => .inr ⟨o, ho, q ▸ hdx⟩) fun o' d a b => .inl ⟨o, ho, by rw [(hs'.2 f hne.symm).trans ho] at a; cases a; exact b⟩
theorem Fn.ext {X : Addr → Prop} {h h' : Heap} {f : Addr} {fd : FuncData} {m : Str → Option Value} (F : Fn h f fd m) (x : Ext X h h') (n1 : ¬ X f) (n2 : ∀ o b, h.get? f = some o → o.dict = some b → ¬ X b) : Fn h' f fd m := by
  obtain ⟨o, ho, hc, hd, hm⟩ := F
  refine ⟨o, x.get ho n1 (.inr fun _ _ z => nomatch (hd.symm.trans z)), hc, hd, ?_⟩
  rcases hm with hm | ⟨d, hdx, hne, hhi, o', es, ep, e1, e2, r⟩
  · exact .inl hm
  · obtain ⟨sl, e, _⟩ := x d o' e1 (n2 o d ho hdx)
    exact .inr ⟨d, hdx, hne, hhi, _, es, ep, e, e2, r⟩
theorem getFn {f : Addr} {fd : FuncData} {m : Str → Option Value} {name : Str} {v : Value} {expr : Bool} {Q : Value → Shared → Prop} (F : Fn s.heap f fd m) (hB : typeLookup (.type "function") name = pure none)
    (hv : m name = some v) (hh : handedOut v = pure v) (hq : ∀ tk, Q v { s with toks := tk }) : wpAny (model PG w) A (getAttr (.ref f) name expr) Q E s := by
  obtain ⟨h, g, d, t, os⟩ := s
  obtain ⟨o, ho, hc, hd, hm⟩ := F
  rcases hm with ⟨_, hmA⟩ | ⟨dx, hdx, hne, hhi, hns⟩
  · rw [hmA name] at hv; cases hv
  have hT : Shared.TypeIs ⟨h, g, d, t + 1, os⟩ (.ref f) "function" := ⟨o, ho, hc⟩
  unfold getAttr getAttrBy
  repeat (first | (with_reducible refine wpAny_loadPart_at ho ?_; rw [hc]) | wp_step)
  rw [lk_fn_ga]
  refine wpAny_pure ?_
  show wpAny _ _ (getAttrByItsOwn (.ref f) (.str name t) (.type "function") (.builtin "object.__getattribute__") true expr) _ _ _
  unfold getAttrByItsOwn hookBefore
  refine wpAny_bind (wpAny_pure (wpAny_bind (wpAny_attempt (wpAny_holding ?_))))
  have e : callGetattribute (.ref f) (.str name t) (.builtin "object.__getattribute__") expr = boundAndCalled (.builtin "object.__getattribute__") (.ref f) (.str name t) := by
    unfold callGetattribute
    rw [show (expr && onTheHeap (.builtin "object.__getattribute__")) = false by cases expr <;> rfl]; rfl
  rw [e]
  unfold boundAndCalled
  rw [slot_fn_ga.bind]
  refine wpAny_bind (wpAny_pure (wpAny_call_entry slot_fn_ga hT entry_ga ?_ (args_ga _ _)))
  unfold Builtin.«object.__getattribute__»
  repeat (first | rw [hB] | (with_reducible refine wpAny_loadPart_at ho ?_; rw [hc]) | wp_step)
  rw [hd]
  unfold instanceDict
  repeat (first | (with_reducible refine wpAny_loadPart_at ho ?_; rw [hc]) | wp_step)
  rw [hdx]
  unfold inDict
  repeat (first | (with_reducible refine wpAny_nsGet hns.ns ?_; rw [hv]) | wp_step)
  refine ⟨v, rfl, ?_⟩
  show wpAny _ _ (handedOut v) _ _ _
  rw [hh]
  exact wpAny_pure (hq _)
end
end Mine
end
section
set_option maxHeartbeats 8000000
open PySem PySem.W PyProof.Rows PySem.Calls PySem.Builtin
namespace Mine
variable [Bs]
/- the heap never shrinks (after the pattern of the library's ToksMono) -/
theorem runs_size {M : Model} {Γ : Ctx} {p : Pos} {t : Sem Fin} {fs : List Frame} {s s' : Shared} {e : End} (h : Runs M Γ p t fs s e s') : s.heap.objs.size ≤ s'.heap.objs.size := by
  induction h <;> (try simp only [Shared.setGen, Heap.size_push, Heap.size_after_update] at *) <;> omega
theorem returns_size {M : Model} {Γ : Ctx} {p : Pos} {s s' : Shared} {r : Result} (h : Returns M Γ p s r s') : s.heap.objs.size ≤ s'.heap.objs.size := runs_size h
theorem wakes_size {M : Model} {Γ : Ctx} {p : Pos} {g : Nat} {r : Resume} {s s' : Shared} {res : GenResult} (h : Wakes M Γ p g r s res s') : s.heap.objs.size ≤ s'.heap.objs.size := by
  unfold Wakes at h
  split at h
  · exact h.elim
  · split at h
    · obtain ⟨e₁, s₁, hr, _, _, rfl⟩ := h; exact (runs_size hr : (s.setGen g .running).heap.objs.size ≤ s₁.heap.objs.size)
    · rw [h.2]; exact Nat.le_refl _
    · rw [h.2]; exact Nat.le_refl _
  · obtain ⟨e₁, s₁, hr, _, _, rfl⟩ := h; exact (runs_size hr : (s.setGen g .running).heap.objs.size ≤ s₁.heap.objs.size)
  · rw [h.2]; exact Nat.le_refl _
  · rw [h.2]; exact Nat.le_refl _
theorem wp_size {α : Type} (M : Model) (Γ : Ctx) (n : Nat) (t : Sem α) : ∀ (Q : α → Pos → Shared → Prop) (E : Value → Pos → Shared → Prop) (p : Pos) (s : Shared), n ≤ s.heap.objs.size → Sem.wp M Γ t Q E p s →
    Sem.wp M Γ t (fun a p' s' => n ≤ s'.heap.objs.size ∧ Q a p' s') (fun e p' s' => n ≤ s'.heap.objs.size ∧ E e p' s') p s := by
  induction t with
  | pure a => intro Q E p s hn h; exact ⟨hn, h⟩
  | raise e => intro Q E p s hn h; exact ⟨hn, h⟩
  | unsupported _ => intro Q E p s _ h; exact h
  | finish _ => intro Q E p s _ h; exact h
  | rule _ k ih => intro Q E p s hn h; exact ih () Q E p s hn h
  | «at» p' k ih => intro Q E p s hn h; exact ih () Q E p' s hn h
  | load a _ k ih => intro Q E p s hn h; obtain ⟨o, ho, h⟩ := h; exact ⟨o, ho, ih o Q E p s hn h⟩
  | update a _ f k ih => intro Q E p s hn h; exact ⟨h.1, ih () Q E p _ (by rw [Heap.size_after_update]; exact hn) h.2⟩
  | loadIfAlive a k ih => intro Q E p s hn h; exact ih _ Q E p s hn h
  | point _ k ih => intro Q E p s hn h; exact ih () Q E p s hn h
  | register _ _ => intro Q E p s _ h; exact h
  | alloc o k ih => intro Q E p s hn h; exact ih _ Q E p _ (by rw [Heap.size_push]; omega) h
  | fresh k ih => intro Q E p s hn h; exact ih _ Q E p _ hn h
  | ask k ih => intro Q E p s hn h; exact ih _ Q E p s hn h
  | choose src m k ih => intro Q E p s hn h; exact ⟨h.1, ih _ Q E p _ hn h.2⟩
  | os q _ k ih => intro Q E p s hn h; exact ih _ Q E p _ hn h
  | call c hd _ _ k ih => intro Q E p s hn h; obtain ⟨r, s', hr, h⟩ := h; exact ⟨r, s', hr, ih r Q E p s' (Nat.le_trans hn (returns_size hr)) h⟩
  | handled own k ih => intro Q E p s hn h; exact ih _ Q E p s hn h
  | genState g k ih => intro Q E p s hn h; obtain ⟨st, hs, h⟩ := h; exact ⟨st, hs, ih _ Q E p s hn h⟩
  | newGen c k ih => intro Q E p s hn h; exact ih _ Q E p _ hn h
  | resume g r _ k ih => intro Q E p s hn h; obtain ⟨res, s', hw, h⟩ := h; exact ⟨res, s', hw, ih res Q E p s' (Nat.le_trans hn (wakes_size hw)) h⟩
  | yield _ _ _ _ => intro Q E p s _ h; exact h
  | stack k ih => intro Q E p s hn h; exact ih _ Q E p s hn h
  | fork _ _ => intro Q E p s _ h; exact h
  | thread k ih => intro Q E p s hn h; exact ih _ Q E p s hn h
  | await _ _ _ _ _ => intro Q E p s _ h; exact h
section
variable {α : Type} {M : Model} {A : Around} {s : Shared}
theorem wpAny_size_of {t : Sem α} {Q : α → Shared → Prop} {E : Value → Shared → Prop} {n : Nat} (hn : n ≤ s.heap.objs.size) (h : wpAny M A t Q E s) :
    wpAny M A t (fun a s' => n ≤ s'.heap.objs.size ∧ Q a s') (fun e s' => n ≤ s'.heap.objs.size ∧ E e s') s := fun Γ p hΓ => wp_size M Γ n t _ _ p s hn (h Γ p hΓ)
theorem wpAny_with_size {t : Sem α} {Q : α → Shared → Prop} {E : Value → Shared → Prop}
    (h : wpAny M A t (fun a s' => s.heap.objs.size ≤ s'.heap.objs.size → Q a s') E s) : wpAny M A t Q E s :=
  wpAny_mono (wpAny_size_of (Nat.le_refl _) h) (fun _ _ x => x.2 x.1) (fun _ _ x => x.2)
theorem codeAny_with_size {c : Code} {R : Result → Shared → Prop} (h : codeAny M A c (fun r s' => s.heap.objs.size ≤ s'.heap.objs.size → R r s') s) : codeAny M A c R s :=
  fun Γ p hc hΓ => by obtain ⟨r, s', hr, hR⟩ := h Γ p hc hΓ; exact ⟨r, s', hr, hR (returns_size hr)⟩
end
theorem useS {w : World} {A : Around} {E : Value → Shared → Prop} {s : Shared} {f : Value} {args : List Value} {Q : Value → Shared → Prop} {R : Result → Shared → Prop} (x : codeAny (model PG w) A (.call f ⟨args, []⟩) R s)
    (h : ∀ r s', R r s' → s.heap.objs.size ≤ s'.heap.objs.size → ∃ v, r = .ok (.ret v) ∧ Q v s') : wpAny (model PG w) A (call f args) Q E s :=
  wpAny_call (codeAny_with_size (codeAny_mono x fun r s' q hs => by obtain ⟨v, rfl, hq⟩ := h r s' q hs; exact hq))
end Mine
end
section
set_option maxHeartbeats 8000000
open PySem PySem.W PyProof.Rows PySem.Calls PySem.Builtin
namespace Mine
variable [Bs]
/- no code object lies there -/
noncomputable def NC (h : Heap) (b : Addr) : Prop := ∀ o vs q t, h.get? b = some o → o.data = .fields vs → vs[1]? ≠ some (.str q t)
theorem NC.none {h : Heap} {b : Addr} (e : h.get? b = none) : NC h b := fun o vs q t e' => by rw [e] at e'; cases e'
theorem NC.ls {h : Heap} {b : Addr} {xs : List Value} (x : Ls h b xs) : NC h b := fun o vs q t e hd => by obtain ⟨n, e'⟩ := x; rw [e'] at e; cases e; cases hd
theorem NC.ns {h : Heap} {b : Addr} {m : Str → Option Value} (x : h.Ns b m) : NC h b := fun o vs q t e hd => by obtain ⟨o', es, ep, e', hd', _⟩ := x; rw [e'] at e; cases e; rw [hd'] at hd; cases hd
theorem NC.cell {h : Heap} {b : Addr} {v : Option Value} (x : h.IsCell b v) : NC h b := fun o vs q t e hd => by obtain ⟨o', e', hd'⟩ := x; rw [e'] at e; cases e; rw [hd'] at hd; cases hd
theorem NC.it {h : Heap} {b l : Addr} {i : Nat} (x : h.IsListIter b l i) : NC h b := fun o vs q t e hd => by obtain ⟨o', e', hc, hd'⟩ := x; rw [e'] at e; cases e; rw [hd'] at hd; cases hd; simp
theorem NC.ir {h : Heap} {b : Addr} {x l st : Int} (y : IsRangeIter h b x l st) : NC h b := fun o vs q t e hd => by rw [y] at e; cases e; cases hd; simp [rawInt]
theorem NC.fn {h : Heap} {b : Addr} {fd : FuncData} {m : Str → Option Value} (x : Fn h b fd m) : NC h b := fun o vs q t e hd => by obtain ⟨o', e', hc, hd', _⟩ := x; rw [e'] at e; cases e; rw [hd'] at hd; cases hd
theorem NC.fnd {h : Heap} {b d : Addr} {fd : FuncData} {m : Str → Option Value} {o : Obj} (x : Fn h b fd m) (e : h.get? b = some o) (e' : o.dict = some d) : NC h d := by
  obtain ⟨o', e₁, hc, hd', y⟩ := x
  rw [e] at e₁; cases e₁
  rcases y with ⟨y, _⟩ | ⟨d', y, _, _, z⟩
  · rw [y] at e'; cases e'
  · rw [y] at e'; cases e'; exact .ns z.ns
theorem Fn.bare {h : Heap} {f : Addr} {fd : FuncData} (e : h.get? f = some { cls := .type "function", data := .func fd }) : Fn h f fd (fun _ => none) := ⟨_, e, rfl, rfl, .inl ⟨rfl, fun _ => rfl⟩⟩
/- a code object and its table of the codes made by it -/
noncomputable def Tab (h : Heap) (c P : Addr) (q : Str) : Prop := ∃ ps, h.IsCode c P ps ∧ h.TableAt c P ps ∧ ∀ pos v, codeAmong pos ps.toList = some v → ∃ c', v = .ref c' ∧ Hi c' ∧ h.CodeRec (.ref c') q
theorem codeExt {X : Addr → Prop} {h h' : Heap} {c : Addr} {q : Str} (x : h.CodeRec (.ref c) q) (e : Ext X h h') (n : ¬ X c) : h'.CodeRec (.ref c) q := by
  obtain ⟨c', o, vs, t, q, ho, hd, r⟩ := x
  cases q
  exact ⟨c, o, vs, t, rfl, e.get ho n (.inr fun _ _ z => nomatch (hd.symm.trans z)), hd, r⟩
theorem codeNC {h : Heap} {c : Addr} {q : Str} (x : h.CodeRec (.ref c) q) : ¬ NC h c := fun n => by
  obtain ⟨c', o, vs, t, e, ho, hd, r⟩ := x
  cases e
  exact n o vs q t ho hd r
theorem tableExt {X : Addr → Prop} {h h' : Heap} {c P : Addr} {ps : Array Value} (t : h.TableAt c P ps) (x : Ext X h h') (hc : c ≤ 114) (n1 : ¬ X c) (n2 : ¬ X P) : h'.TableAt c P ps :=
  let ⟨⟨o, vs, a, r⟩, b⟩ := t; ⟨⟨o, vs, x.get a n1 (.inl hc), r⟩, x.get b n2 (.inr fun _ _ z => nomatch z)⟩
theorem Tab.ext {X : Addr → Prop} {h h' : Heap} {c P : Addr} {q : Str} (T : Tab h c P q) (x : Ext X h h') (hc : c ≤ 114 ∧ ¬ Tb c) (hP : Tb P) (hX : ∀ b, X b → (Tb b ∧ b ≠ P) ∨ (Hi b ∧ NC h b)) : Tab h' c P q := by
  obtain ⟨ps, ⟨o, vs, file, tf, flags, tg, inF, text, tt, op, e1, r1, r2, r3, r4, r5, r6, e2, d2, r⟩, ta, f⟩ := T
  have n1 : ¬ X c := fun z => by
    rcases hX c z with y | y
    · exact hc.2 y.1
    · exact absurd hc.1 (Nat.not_le.mpr y.1)
  have n2 : ¬ X P := fun z => by
    rcases hX P z with y | y
    · exact y.2 rfl
    · have : 114 < P := y.1
      rcases hP with rfl | rfl | rfl <;> exact absurd this (by decide)
  refine ⟨ps, ⟨o, vs, file, tf, flags, tg, inF, text, tt, op, x.get e1 n1 (.inl hc.1), r1, r2, r3, r4, r5, r6, x.get e2 n2 (.inr fun _ _ z => nomatch (d2.symm.trans z)), d2, r⟩, tableExt ta x hc.1 n1 n2, fun pos v e => ?_⟩
  obtain ⟨c', rfl, hhi, y⟩ := f pos v e
  refine ⟨c', rfl, hhi, codeExt y x fun z => ?_⟩
  rcases hX c' z with z | z
  · have : 114 < c' := hhi
    rcases z.1 with rfl | rfl | rfl <;> exact absurd this (by decide)
  · exact codeNC y z.2
theorem Tab.non {h h' : Heap} {c P : Addr} {q : Str} (T : Tab h c P q) (x : Ext Non h h') (hc : c ≤ 114 ∧ ¬ Tb c) (hP : Tb P) : Tab h' c P q := T.ext x hc hP fun _ z => z.elim
theorem codeAmong_more {pos : Pos} {c v : Value} {a b : Nat} (l : List Value) (h : TriplesOk l) (hs : codeAmong pos (l ++ [rawInt a, rawInt b, c]) = some v) : codeAmong pos l = some v ∨ v = c := by
  fun_induction TriplesOk l with
  | case1 =>
    simp only [List.nil_append, rawInt, codeAmong] at hs
    split at hs
    · cases hs; exact .inr rfl
    · cases hs
  | case2 a t b u x rest ih =>
    simp only [List.cons_append, codeAmong] at hs ⊢
    split
    · rename_i q; rw [if_pos q] at hs; exact .inl hs
    · rename_i q; rw [if_neg q] at hs; exact ih h hs
  | case3 l h1 h2 => exact h.elim
section
variable {w : World} {A : Around} {E : Value → Shared → Prop} {s : Shared} {env : Env} {mg mb : Str → Option Value}
theorem code_ {c P : Addr} {pos : Pos} {firstLine : Nat} {name q : Str} {p : Arguments} {scope : Scope} {body : FuncBody} {Q : Value → Shared → Prop} (hcd : env.code = .ref c) (T : Tab s.heap c P q) (hc : c ≤ 114 ∧ ¬ Tb c) (hP : Tb P) (hs : 114 < s.heap.objs.size)
    (h : ∀ c' h' tk, Ext (At P) s.heap h' → Tab h' c P q → Hi c' → h'.CodeRec (.ref c') q → Q (.ref c') { s with heap := h', toks := tk }) : wpAny (model PG w) A (functionCode env pos firstLine name q p scope body) Q E s := by
  obtain ⟨ps, hok, ta, f⟩ := T
  cases hf : codeAmong pos ps.toList with
  | some v =>
    obtain ⟨c', rfl, hhi, y⟩ := f pos v hf
    exact wpAny_functionCode_hit hcd hok hf (h c' s.heap s.toks (Ext.refl _ _) ⟨ps, hok, ta, f⟩ hhi y)
  | none =>
    refine wpAny_functionCodeX hcd hok ta hf fun c' h' tk x hge hlt hok' hrec ta' _ => ?_
    have e : Ext (At P) s.heap h' := fun b o e n => ⟨o.slots, x b o n e, fun _ => rfl⟩
    have hhi : Hi c' := Nat.lt_of_lt_of_le hs hge
    refine h c' h' tk e ⟨_, hok', ta', fun pos' v hv => ?_⟩ hhi hrec
    obtain ⟨o, vs, file, tf, flags, tg, inF, text, tt, op, e1, r1, r2, r3, r4, r5, r6, e2, d2, r, _⟩ := hok
    rw [Array.toList_append] at hv
    rcases codeAmong_more _ r hv with hv | rfl
    · obtain ⟨c₂, rfl, hh₂, y⟩ := f pos' v hv
      refine ⟨c₂, rfl, hh₂, codeExt y e fun z => ?_⟩
      have : 114 < c₂ := hh₂
      rw [show c₂ = P from z] at this
      rcases hP with rfl | rfl | rfl <;> exact absurd this (by decide)
    · exact ⟨c', rfl, hhi, hrec⟩
theorem bfor {Q : Addr → Shared → Prop} (G : Gd w mg mb s.heap) (h : Q builtinsNs s) {run : Addr} : wpAny (model PG w) A (builtinsFor mainGlobals run) Q E s := by
  obtain ⟨o, ho, a, b, c⟩ := G.md
  exact wpAny_builtinsFor G.g (mg_of G.k G.g (by kernel_rfl)) (by decide) ho a b c h
theorem mkFn {c P : Addr} {pos : Pos} {firstLine : Nat} {name q : Str} {p : Arguments} {scope : Scope} {body : FuncBody} {cl : List (Str × Addr)} {Q : Value → Shared → Prop} (G : Gd w mg mb s.heap) (hcd : env.code = .ref c) (T : Tab s.heap c P q) (hs : 114 < s.heap.objs.size)
    (hcl : closureFor scope env = pure cl) (hdoc : ∀ b, body = .stmts b → docOf b = none)
    (h : ∀ f c' h' tk ct pm, s.heap.objs.size ≤ f → f < h'.objs.size → Ext (At P) s.heap h' → Tab h' c P q → Hi c' → h'.CodeRec (.ref c') q →
      h'.get? f = some { cls := .type "function", data := .func { name, qualname := q, params := p, body, scope, globals := mainGlobals, closure := cl, closureTuple := ct, code := .ref c', builtins := builtinsNs, defaults := .none, kwdefaults := .none, pyModule := pm } } → Q (.ref f) { s with heap := h', toks := tk })
    (hc : c ≤ 114 ∧ ¬ Tb c := by decide) (hP : Tb P := by decide) (hg : env.globals = mainGlobals := by rfl) :
    wpAny (model PG w) A (makeFunction name q p body scope env [] [] [] pos firstLine) Q E s := by
  have key : ∀ (ct : Value) (s₁ : Shared), (∃ h₁, s₁ = { s with heap := h₁ } ∧ Ext Non s.heap h₁ ∧ s.heap.objs.size ≤ h₁.objs.size) → wpAny (model PG w) A (do
      let code ← functionCode env pos firstLine name q p scope body
      let bi ← builtinsFor mainGlobals env.builtins
      let pm ← nsGet mainGlobals "__name__"
      newObj (.type "function") (.func { name, qualname := q, params := p, body, scope, globals := mainGlobals, closure := cl, closureTuple := ct, code, builtins := bi, defaults := .none, kwdefaults := .none, pyModule := pm.getD .none })) Q E s₁ := by
    rintro ct _ ⟨h₁, rfl, x₁, hsz⟩
    refine wpAny_bind (wpAny_with_size (code_ (s := { s with heap := h₁ }) hcd (T.non x₁ hc hP) hc hP (Nat.lt_of_lt_of_le hs hsz) fun c' h₂ tk x₂ T₂ hhi rec hsz₂ => ?_))
    have G₂ : Gd w mg mb h₂ := (G.ext x₁ fun _ z => z.elim).ext x₂ fun b z => .inr (by rw [show b = P from z]; exact hP)
    refine wpAny_bind (bfor (s := { s with heap := h₂, toks := tk }) G₂ (wpAny_bind (wpAny_nsGet G₂.g ?_)))
    simp only [newObj]
    have x₃ : Ext (At P) s.heap h₂ := (x₁.mono fun _ z => z.elim).trans x₂
    exact wpAny_bind (wpAny_alloc (wpAny_pure (h _ c' _ tk ct _ (Nat.le_trans hsz hsz₂) (by rw [Heap.size_push]; exact Nat.lt_succ_self _) (x₃.trans (Ext.push _ _ _)) (T₂.non (Ext.push _ _ _) hc hP) hhi (rec.push _) (Heap.get?_push_size _ rfl))))
  cases body with
  | stmts b =>
    have hd := hdoc b rfl
    simp only [makeFunction, List.zip_nil_right, List.filterMap_nil, List.isEmpty_nil, if_true, pure_bind, hcl, hg, hd]
    split
    · exact key _ _ ⟨s.heap, rfl, Ext.refl _ _, Nat.le_refl _⟩
    · exact wpAny_bind (wpAny_newTextTuple (key _ _ ⟨_, rfl, Ext.push _ _ _, by rw [Heap.size_push]; omega⟩))
  | expr b =>
    simp only [makeFunction, List.zip_nil_right, List.filterMap_nil, List.isEmpty_nil, if_true, pure_bind, hcl, hg]
    split
    · exact key _ _ ⟨s.heap, rfl, Ext.refl _ _, Nat.le_refl _⟩
    · exact wpAny_bind (wpAny_newTextTuple (key _ _ ⟨_, rfl, Ext.push _ _ _, by rw [Heap.size_push]; omega⟩))
end
end Mine
end
section
set_option maxHeartbeats 8000000
open PySem PySem.W PyProof.Rows PySem.Calls PySem.Builtin
namespace Mine
variable [Bs]
/- an element: a function whose only name of its own is tag -/
noncomputable def El (h : Heap) (lo hi : Nat) (v t : Value) : Prop := ∃ f fd, v = .ref f ∧ lo ≤ f ∧ f < hi ∧ Fn h f fd (fun y => if y = Str.ofString "tag" then some t else none) ∧ ∀ o d, h.get? f = some o → o.dict = some d → lo ≤ d ∧ d < hi
theorem El.ext {X : Addr → Prop} {h h' : Heap} {lo hi : Nat} {v t : Value} (x : El h lo hi v t) (e : Ext X h h') (n : ∀ b, lo ≤ b → b < hi → ¬ X b) : El h' lo hi v t := by
  obtain ⟨f, fd, rfl, h1, h2, F, g⟩ := x
  obtain ⟨o, ho, r⟩ := id F
  refine ⟨f, fd, rfl, h1, h2, F.ext e (n f h1 h2) fun o d a b => n d (g o d a b).1 (g o d a b).2, fun o' d a b => ?_⟩
  obtain ⟨o'', ho', hdd, hcc, hdi⟩ := e.data ho (n f h1 h2)
  rw [a] at ho'
  cases ho'
  rw [hdi] at b
  exact g o d ho b
theorem El.mono {h : Heap} {lo hi lo' hi' : Nat} {v t : Value} (x : El h lo hi v t) (a : lo' ≤ lo) (b : hi ≤ hi') : El h lo' hi' v t := by
  obtain ⟨f, fd, rfl, h1, h2, F, g⟩ := x
  exact ⟨f, fd, rfl, Nat.le_trans a h1, Nat.lt_of_lt_of_le h2 b, F, fun o d c e => ⟨Nat.le_trans a (g o d c e).1, Nat.lt_of_lt_of_le (g o d c e).2 b⟩⟩
theorem getTag {w : World} {A : Around} {E : Value → Shared → Prop} {s : Shared} {lo hi : Nat} {v t : Value} {expr : Bool} {Q : Value → Shared → Prop} (x : El s.heap lo hi v t) (hh : handedOut t = pure t)
    (hq : ∀ tk, Q t { s with toks := tk }) : wpAny (model PG w) A (getAttr v (Str.ofString "tag") expr) Q E s := by
  obtain ⟨f, fd, rfl, h1, h2, F, g⟩ := x
  exact getFn F lk_fn_tag (by simp) hh hq
theorem Lambda_ {w : World} {A : Around} {E : Value → Shared → Prop} {s : Shared} {env : Env} {args : Arguments} {body : Expr} {scope : Scope} {pos : Pos} {Q : Value → Shared → Prop}
    (h : wpAny (model PG w) A (makeFunction "<lambda>" (env.qual ++ "<lambda>") args (.expr body) scope env [] [] [] pos pos.line) Q E s) (hd : defaultsOf args env = ([], []) := by rfl) : wpAny (model PG w) A (eval (.Lambda args body scope pos) env) Q E s := by
  rw [arm_eval_Lambda, hd]
  exact wpAny_bind (wpAny_pure (wpAny_bind (wpAny_holding (wpAny_pure h))))
/- the dictionary that setFn makes is new -/
theorem element_spec {w : World} {mg mb : Str → Option Value} {A : Around} {s : Shared} {t : Value} (G : Gd w mg mb s.heap) (R : Rm A 2) (hs : 114 < s.heap.objs.size) (T : Tab s.heap 70 66 (Str.ofString "_law_element.<locals>.<lambda>")) :
    codeAny (model PG w) A (.call (.ref 71) ⟨[t], []⟩) (fun r s' => ∃ h' tk v, r = .ok (.ret v) ∧ s' = { s with heap := h', toks := tk } ∧ Ext (At 66) s.heap h' ∧ Tab h' 70 66 (Str.ofString "_law_element.<locals>.<lambda>") ∧ El h' s.heap.objs.size h'.objs.size v t) s := by
  refine call_plain_ret R.d (G.k 71 _ rfl) rfl G.lim (codeRec_of G.k rfl) rfl (locs rfl) (fun h₁ F => ?_)
  have FL : Loc h₁ s.heap.objs.size [(Str.ofString "tag", t)] := F.ns
  have E₁ : Ext Non s.heap h₁ := Ext.of F.keep _
  have G₁ : Gd w mg mb h₁ := G.ext E₁ fun _ q => q.elim
  have hsz₁ : s.heap.objs.size < h₁.objs.size := by obtain ⟨o, es, ep, ho, _⟩ := FL; exact Heap.lt_size ho
  clear F
  refine wpAny_execs_cons (wpAny_Assign_Name (Lambda_ (mkFn (c := 70) (P := 66) (q := Str.ofString "_law_element.<locals>.<lambda>") G₁ rfl (T.non E₁ (by decide) (by decide)) (Nat.lt_trans hs hsz₁) (cl := []) rfl (fun b e => nomatch e) fun f c' h₂ tk ct pm hf hf' E₂ T₂ hc' rec F₂ => ?_)))
  have FL₂ := Loc.ext FL E₂ (show ¬ s.heap.objs.size = 66 from fun q => by rw [q] at hs; exact absurd hs (by decide))
  refine Loc.store FL₂ fun h₃ FL₃ E₃ => ?_
  have fL : f ≠ s.heap.objs.size := fun q => by rw [q] at hf; exact absurd hsz₁ (Nat.not_lt.mpr hf)
  have F₃ := E₃.get F₂ fL (.inr fun _ _ z => nomatch z)
  have e₃ : Ext (At 66) s.heap h₃ := ((E₁.mono fun _ q => q.elim).trans E₂).st E₃ (Nat.le_refl _)
  have G₃ : Gd w mg mb h₃ := G.ext e₃ fun b q => .inr (.inr (.inl q))
  have T₃ := T₂.ext E₃ (by decide) (by decide) fun b q => .inr ⟨by rw [show b = s.heap.objs.size from q]; exact hs, by rw [show b = s.heap.objs.size from q]; exact .ns FL₂⟩
  refine wpAny_execs_cons (plainObj_wpAny_Assign_Attribute (Loc.name FL₃ rfl (Loc.name FL₃ rfl (wpAny_with_size (setFn (ns := []) (Fn.bare F₃) lk_fn_tag ?_ Within.nil (by decide) fun h₄ tk₄ X F₄ E₄ hX hD hsz₄ => ?_)))))
  · obtain ⟨o, es, ep, ho, _⟩ := FL₃; exact Nat.lt_trans hs (Heap.lt_size ho)
  have hX' : ∀ b, X b → b = f := fun b q => by
    rcases hX b q with q | ⟨o, ho, hdd⟩
    · exact q
    · rw [show ({ s with heap := h₃, toks := _ } : Shared).heap.get? f = h₃.get? f from rfl, F₃] at ho; cases ho; cases hdd
  have FL₄ := Loc.ext FL₃ E₄ fun q => fL (hX' _ q).symm
  have e₄ : Ext (At 66) s.heap h₄ := e₃.step E₄ fun a o e q => by
    rw [hX' a q] at e
    exact absurd (Heap.lt_size e) (Nat.not_lt.mpr (Nat.le_trans (Nat.le_of_lt hsz₁) hf))
  have hhf : Hi f := Nat.lt_of_lt_of_le (Nat.lt_trans hs hsz₁) hf
  have T₄ := T₃.ext E₄ (by decide) (by decide) fun b q => .inr ⟨by rw [hX' b q]; exact hhf, by rw [hX' b q]; exact .fn (Fn.bare F₃)⟩
  refine wpAny_execs_cons (wpAny_Return_some (Loc.name FL₄ rfl ?_))
  refine ⟨h₄, _, _, rfl, rfl, e₄, T₄, f, _, rfl, Nat.le_trans (Nat.le_of_lt hsz₁) hf, ?_, F₄, ?_⟩
  · obtain ⟨o, ho, _⟩ := F₄; exact Heap.lt_size ho
  · intro o d a b
    refine ⟨?_, ?_⟩
    · rcases hD o d a b with ⟨o₀, h₀, hdd⟩ | q
      · rw [show ({ s with heap := h₃, toks := _ } : Shared).heap.get? f = h₃.get? f from rfl, F₃] at h₀; cases h₀; cases hdd
      · have : s.heap.objs.size < h₃.objs.size := by obtain ⟨o, es, ep, ho, _⟩ := FL₃; exact Heap.lt_size ho
        exact Nat.le_trans (Nat.le_of_lt this) q
    · obtain ⟨o', ho', _, _, y⟩ := F₄
      rw [a] at ho'; cases ho'
      rcases y with ⟨y, _⟩ | ⟨d', y, _, _, z⟩
      · rw [y] at b; cases b
      · rw [y] at b; cases b; exact z.lt
end Mine
end
section
set_option maxHeartbeats 8000000
open PySem PySem.W PyProof.Rows PySem.Calls PySem.Builtin
namespace Mine
variable [Bs]
section
variable {M : Model} {A : Around} {R : GenEnd} {Y : Protocol} {n : Nat} {s₀ : Shared} {c : Code} {fs : List Frame} {s : Shared} {env : Env}
  {K : Flow → Sem Fin} {H : Value → Sem Fin} {gd : Bool → Bool} {lv : List Value → List Value}
theorem segm {α : Type} {m : Sem α} {K : α → Sem Fin} {H : Value → Sem Fin} {gd lv} (h : wpAny M (A.over c fs) m (fun a s' => Seg M A R Y n s₀ c (K a) fs s') NoE s) : Seg M A R Y n s₀ c (m.wrap K H gd lv) fs s :=
  seg_wrap (wpAny_mono h (fun _ _ q => q) fun _ _ q => q.elim)
theorem wrap_bind {α β : Type} (m : Sem α) (f : α → Sem β) (K : β → Sem Fin) (H : Value → Sem Fin) (gd lv) : (m >>= f).wrap K H gd lv = m.wrap (fun a => (f a).wrap K H gd lv) H gd lv := by
  rw [Sem.bind_eq_wrap', Sem.wrap_wrap]; rfl
theorem seg_st {st : Stmt} (h : wpAny M (A.over c fs) (exec st env) (fun f s' => f = .next ∧ Seg M A R Y n s₀ c (K .next) fs s') NoE s) : Seg M A R Y n s₀ c ((exec st env).wrap K H gd lv) fs s :=
  segm (wpAny_mono h (fun f s' q => by obtain ⟨rfl, q⟩ := q; exact q) fun _ _ q => q)
theorem seg_If {test : Expr} {body orelse : List Stmt} {pos : Pos} (h : wpAny M (A.over c fs) (isTrue test env (eval test env)) (fun b s' => if b = true then Seg M A R Y n s₀ c ((execs body env).wrap K H gd lv) fs s' else Seg M A R Y n s₀ c ((execs orelse env).wrap K H gd lv) fs s') NoE s) :
    Seg M A R Y n s₀ c ((exec (.If test body orelse pos) env).wrap K H gd lv) fs s := by
  rw [exec_If, wrap_bind]
  refine segm (wpAny_standAt ?_)
  rw [wrap_bind]
  refine segm (wpAny_mono h (fun b s' q => ?_) fun _ _ q => q)
  cases b with
  | true => exact q
  | false => exact q
theorem seg_For {target iter : Expr} {body orelse : List Stmt} {pos : Pos}
    (h : wpAny M (A.over c fs) (eval iter env) (fun x s₁ => wpAny M (A.over c fs) (pyIter x) (fun it s₂ => ∀ p, Seg M A R Y n s₀ (.forLoop target it body orelse env) (M.den (.forLoop target it body orelse env))
      (.ret (fun r => ((match r with | .ok f => (.pure f : Sem Flow) | .error e => .raise e).onRaise fun (x : Value) => do
        if (← field x 1) == Value.none then unsupported "frame.own-activation:exception-without-traceback"
        setFlight x env.frame).wrap K H gd lv) none (gd false) (lv []) c p [] :: fs) s₂) NoE s₁) NoE s)
    (hs : ∀ x, foldedSetIterable iter env x = pure x := by intro _; rfl) :
    Seg M A R Y n s₀ c ((exec (.For target iter body orelse pos) env).wrap K H gd lv) fs s := by
  rw [exec_For, wrap_bind]
  refine segm (wpAny_standAt ?_)
  rw [wrap_bind]
  refine segm (wpAny_mono h (fun x s₁ q => ?_) fun _ _ q => q)
  rw [wrap_bind]
  refine segm (wpAny_of_eq (hs x) ?_)
  rw [wrap_bind]
  refine segm (wpAny_standAt ?_)
  rw [wrap_bind]
  refine segm (wpAny_holding (wpAny_mono q (fun it s₂ q => ?_) fun _ _ q => q))
  exact seg_call q
end
section
variable {w : World} {A : Around} {R : GenEnd} {Y : Protocol} {n : Nat} {s₀ : Shared} {fs : List Frame} {s : Shared} {env : Env}
theorem seg_forLoop {target : Expr} {it : Value} {body : List Stmt}
    (h : wpAny (model PG w) (A.over (.forLoop target it body [] env) fs) (pyNext it) (fun r s' => match r with
      | none => Seg (model PG w) A R Y n s₀ (.block [] env) (leafOf (.ok .next)) fs s'
      | some v => wpAny (model PG w) (A.over (.forLoop target it body [] env) fs) (assign target env v) (fun _ s'' =>
          Seg (model PG w) A R Y n s₀ (.forLoop target it body [] env) ((execs body env).wrap (fun f => match f with
            | .next | .cont => .pure (.again (.forLoop target it body [] env))
            | .brk => .pure (.done .next)
            | .ret v => .pure (.done (.ret v))) (fun e => (do noteFrame e env; theTreesLotGoes e : Sem Unit).wrap (fun _ => .raise e) .raise id id) id id) fs s'') NoE s') NoE s)
    (ht : ∀ v, letOwnedTupleGo target it v = pure () := by intro _; rfl) :
    Seg (model PG w) A R Y n s₀ (.forLoop target it body [] env) ((model PG w).den (.forLoop target it body [] env)) fs s := by
  show Seg _ A R Y n s₀ _ ((forTurn target it body [] env).onRaise (fun x => do noteFrame x env; theTreesLotGoes x)) fs s
  rw [Sem.onRaise_eq_wrap]
  unfold forTurn
  rw [wrap_bind]
  refine segm (wpAny_standAt ?_)
  rw [wrap_bind]
  refine segm (wpAny_onRaise (wpAny_mono h (fun r s' q => ?_) fun _ _ q => q.elim))
  cases r with
  | none =>
    refine seg_again rfl ?_
    show Seg _ A R Y n s₀ _ (do return Fin.done (← (execs [] env).onRaise (fun x => do noteFrame x env; theTreesLotGoes x))) fs s'
    exact q
  | some v =>
    show Seg _ A R Y n s₀ _ (Sem.wrap _ _ _ _ (letOwnedTupleGo target it v >>= _)) fs s'
    rw [wrap_bind]
    refine segm (wpAny_of_eq (ht v) ?_)
    rw [wrap_bind]
    refine segm (wpAny_mono q (fun _ s'' q => ?_) fun _ _ q => q)
    rw [wrap_bind]
    rw [Sem.wrap_congr (execs body env) _ _ (K' := fun f => match f with
            | .next | .cont => .pure (.again (.forLoop target it body [] env))
            | .brk => .pure (.done .next)
            | .ret v => .pure (.done (.ret v))) (H' := (fun e => (do noteFrame e env; theTreesLotGoes e : Sem Unit).wrap (fun _ => .raise e) .raise id id))
        (fun f => by cases f <;> rfl)
        (fun e => by first | exact Sem.bind_eq_wrap _ _ | (show (do noteFrame e env; theTreesLotGoes e : Sem Unit).bind (fun _ => .raise e) = _; rw [Sem.bind_eq_wrap]))]
    exact q
end
end Mine
end
section
set_option maxHeartbeats 8000000
open PySem PySem.W PyProof.Rows PySem.Calls PySem.Builtin
namespace Mine
variable [Bs]
section
variable {prog : Program} {w : World} {A : Around} {E : Value → Shared → Prop} {s : Shared}
/- the library's wpAny_pyNext_gen, with the word that what sleeps has nothing to clean up -/
theorem nextGen {a : Addr} {g n : Nat} {gs : GenState} {P : Nat → Shared → Shared → Prop} {Y : Protocol} {Q : Option Value → Shared → Prop} (hh : A.handled = none)
    (hl : s.heap.NoLimit) (hroom : A.depth < recursionLimit) (hg : s.heap.IsGen a g) (hgs : s.gens[g]? = some gs)
    (hgo : gs.Goes (model prog w) A.in1 (fun n s₀ r s₁ => r = .ok (.ret .none) ∧ P n s₀ s₁) Y n (.send .none) (s.setGen g .running))
    (hY : ∀ v s₁ gs', gs'.bare = true → Y (n - 1) (s.setGen g .running) v s₁ (fun r' s'' => match n with
        | 0 => False
        | m + 1 => gs'.Goes (model prog w) A.in1 (fun n s₀ r s₁ => r = .ok (.ret .none) ∧ P n s₀ s₁) Y m r' s'') → Q (some v) (s₁.setGen g gs'))
    (hP : ∀ s₁, P n (s.setGen g .running) s₁ → ∀ h', (∀ b o, s₁.heap.get? b = some o → h'.get? b = some o) → Q none { s₁.setGen g .finished with heap := h' }) :
    wpAny (model prog w) A (pyNext (.ref a)) Q E s := by
  unfold pyNext
  refine wpAny_bind (wpAny_attempt (wpAny_callSpecial?_slot (name := Str.ofString "__next__") hg.typeIs slot_gen_next
    (wpAny_call_entry slot_gen_next hg.typeIs entry_gen_next ?_ (args_gen_next _))))
  show wpAny _ A.in1 (Builtin.Generator.genWake (.ref a) (.send .none)) _ _ s
  unfold Builtin.Generator.genWake
  refine wpAny_bind (wpAny_holding (wpAny_genNumber hg (wpAny_bind (wpAny_genState hgs ?_))))
  cases gs with
  | running => exact hgo.elim
  | finished => exact hgo.elim
  | _ =>
    refine wpAny_bind (wpAny_roomToWake hl hroom ?_)
    show wpAny _ A.in1 (.resume g (.send .none) [] _) _ _ s
    refine wpAny_resumeQ hgs hgo (fun x s₁ hx => ?_) (fun v s₁ gs' hb hv => ?_)
    · obtain ⟨rfl, hp⟩ := hx
      show wpAny _ A.in1 (newExc (.type "StopIteration") [] >>= _) _ _ _
      refine wpAny_bind ?_
      simp only [newExc, newTuple]
      refine wpAny_bind (wpAny_newObj_type ?_ (by size_fits))
      refine wpAny_bind (m := firstArgMember _ _) (wpAny_of_eq (a := Value.none) (by first | rfl | (simp only [firstArgMember]; rfl)) ?_)
      refine wpAny_newObj_type ?_ (by size_fits)
      simp only [raiseNew]
      refine wpAny_bind (wpAny_bind (wpAny_handled ?_))
      first | rw [show A.in1.handled = none from hh] | rw [hh]
      refine wpAny_throw ?_
      refine wpAny_bind (wpAny_isInstance (T := "StopIteration") (b := true) ⟨_, Heap.get?_push_size _ rfl, rfl⟩ isSubtype_stop ?_)
      exact wpAny_pure (hP s₁ hp _ fun b o hb => Heap.get?_push_of_some _ (Heap.get?_push_of_some _ hb))
    · exact wpAny_pure ⟨v, rfl, wpAny_pure (hY v s₁ gs' hb hv)⟩
end
/- what a selecting generator leans on: lo..hi the elements, ra their row, N..N' what was made for it -/
noncomputable def LI (h : Heap) (b : Addr) : Prop := ∃ o vs, h.get? b = some o ∧ o.cls = .type "list_iterator" ∧ o.data = .fields vs ∧ ∀ q t, vs[1]? ≠ some (.str q t)
noncomputable def Wr (lo hi ra N N' : Nat) (h : Heap) (b : Addr) : Prop := 114 < b ∧ ¬ (lo ≤ b ∧ b < hi) ∧ b ≠ ra ∧ ¬ (N ≤ b ∧ b < N') ∧ ¬ LI h b
noncomputable def Vn (Fr N : Nat) (h : Heap) (b : Addr) : Prop := b = Fr ∨ (N ≤ b ∧ LI h b)
noncomputable def LatG (lo hi ra N N' : Nat) (s s' : Shared) : Prop := Ext (Wr lo hi ra N N' s.heap) s.heap s'.heap ∧ s'.gens = s.gens
noncomputable def AdvG (Fr N : Nat) (s s' : Shared) : Prop := ∃ h' gs tk, s' = { s with heap := h', gens := gs, toks := tk } ∧ Ext (Vn Fr N s.heap) s.heap h' ∧ (AllBare s.gens → AllBare gs)
noncomputable def Adv0 (Fr N : Nat) (s s' : Shared) : Prop := ∃ h' tk, s' = { s with heap := h', toks := tk } ∧ Ext (Vn Fr N s.heap) s.heap h'
theorem bare_set {gens : Array GenState} {g : Nat} {x : GenState} (h : AllBare gens) (hx : x.bare = true) : AllBare (gens.setIfInBounds g x) := fun y hy => by
  obtain ⟨i, hi, rfl⟩ := Array.mem_iff_getElem.mp hy
  rw [Array.getElem_setIfInBounds (by simpa using hi)]
  split
  · exact hx
  · exact h _ (Array.getElem_mem _)
noncomputable def RR (Fr N : Nat) : GenEnd := fun n s₀ r s₁ => r = .ok (.ret .none) ∧ (n = 0 ∧ Adv0 Fr N s₀ s₁)
noncomputable def YY (Fr lo hi ra N N' : Nat) (yl : List Value) : Protocol := fun n s₀ v s' kap => yl[yl.length - (n + 1)]? = some v ∧ n + 1 ≤ yl.length ∧ Adv0 Fr N s₀ s' ∧ ∀ s'' : Shared, Ext (Wr lo hi ra N N' s'.heap) s'.heap s''.heap → kap (.send .none) s''
noncomputable def Ready (w : World) (A : Around) (Fr lo hi ra N N' : Nat) (a g : Nat) (yl : List Value) (n : Nat) (s : Shared) : Prop :=
  s.heap.IsGen a g ∧ s.heap.NoLimit ∧ ∃ gs, s.gens[g]? = some gs ∧ ∀ s₁ : Shared, Ext (Wr lo hi ra N N' s.heap) s.heap s₁.heap → gs.Goes (model PG w) A.in1 (RR Fr N) (YY Fr lo hi ra N N' yl) n (.send .none) s₁
theorem genExt {X : Addr → Prop} {h h' : Heap} {a g : Nat} (x : h.IsGen a g) (e : Ext X h h') (n : ¬ X a) : h'.IsGen a g := by
  obtain ⟨o, nm, qn, ho, hc, hd, hs⟩ := x
  exact ⟨o, nm, qn, e.get ho n (.inr fun _ _ z => nomatch (hd.symm.trans z)), hc, hd, hs⟩
theorem genNLI {h : Heap} {a g : Nat} (x : h.IsGen a g) : ¬ LI h a := fun ⟨o', vs, ho', hc', _⟩ => by
  obtain ⟨o, nm, qn, ho, hc, hd, hs⟩ := x
  rw [ho] at ho'; cases ho'; rw [hc] at hc'; exact absurd hc' (by decide)
theorem limExt {X : Addr → Prop} {h h' : Heap} (x : h.NoLimit) (e : Ext X h h') (n : ¬ X cStatics) : h'.NoLimit := by
  obtain ⟨m, hm, hn⟩ := x
  exact ⟨m, e.ns hm n, hn⟩
theorem readyFeed {w : World} {A : Around} {Fr lo hi ra N N' a g : Nat} {yl : List Value} (hh : A.handled = none) (hd : A.depth < recursionLimit) (ha : N ≤ a ∧ a < N') (haF : a ≠ Fr) (hN : 114 < N) (hF : N ≤ Fr) :
    ∀ (n : Nat) (s : Shared), n ≤ yl.length → Ready w A Fr lo hi ra N N' a g yl n s → Feed w A (.ref a) (LatG lo hi ra N N') (AdvG Fr N) (eqs (yl.drop (yl.length - n))) s := by
  have hc1 : ∀ {h : Heap}, ¬ Wr lo hi ra N N' h cStatics := fun q => absurd q.1 (by decide)
  have hc2 : ∀ {h : Heap}, ¬ Vn Fr N h cStatics := fun q => by
    rcases q with q | q
    · rw [← q] at hF; exact absurd (Nat.lt_of_lt_of_le hN hF) (by decide)
    · exact absurd (Nat.lt_of_lt_of_le hN q.1) (by decide)
  have ha1 : ∀ {h : Heap}, ¬ Wr lo hi ra N N' h a := fun q => q.2.2.2.1 ha
  intro n
  induction n with
  | zero =>
    intro s hn ⟨G, L, gs, hgs, go⟩
    rw [Nat.sub_zero, List.drop_length]
    rintro s₁ ⟨x, hgn⟩
    have G₁ := genExt G x ha1
    refine nextGen hh (limExt L x hc1) hd G₁ (by rw [hgn]; exact hgs) (go _ x) (fun v s₂ gs' hb hy => ?_) (fun s₂ hp h' k => ?_)
    · exact (hy.2.2.2 s₂ (Ext.refl _ _)).elim
    · obtain ⟨_, h₂, tk, rfl, y⟩ := hp
      exact ⟨rfl, h', _, tk, rfl, y.non (Ext.of k _), fun b => bare_set (bare_set b rfl) rfl⟩
  | succ n ih =>
    intro s hn ⟨G, L, gs, hgs, go⟩
    have e : yl.drop (yl.length - (n + 1)) = yl[yl.length - (n + 1)]'(by omega) :: yl.drop (yl.length - n) := by
      rw [List.drop_eq_getElem_cons (by omega)]
      congr 2
      omega
    rw [e]
    rintro s₁ ⟨x, hgn⟩
    have G₁ := genExt G x ha1
    refine nextGen hh (limExt L x hc1) hd G₁ (by rw [hgn]; exact hgs) (go _ x) (fun v s₂ gs' hb hy => ?_) (fun s₂ hp h' k => ?_)
    · obtain ⟨hv, hle, ⟨h₂, tk, rfl, y⟩, kap⟩ := hy
      have hgl : g < s.gens.size := (Array.getElem?_eq_some_iff.mp hgs).1
      refine ⟨⟨v, rfl, ?_⟩, ⟨h₂, _, tk, rfl, y, fun b => bare_set (bare_set b rfl) hb⟩, ih _ (by omega) ⟨genExt G₁ y fun q => ?_, limExt (limExt L x hc1) y hc2, gs', ?_, fun s₃ z => kap s₃ z⟩⟩
      · have hv' : yl[yl.length - (n + 1)]? = some v := hv
        rw [List.getElem?_eq_getElem (by omega)] at hv'
        exact (Option.some.inj hv').symm
      · rcases q with q | q
        · exact haF q
        · exact genNLI G₁ q.2
      · show ((s₁.gens.setIfInBounds g .running).setIfInBounds g gs')[g]? = some gs'
        rw [hgn]
        simp [hgl]
    · exact absurd hp.1 (by omega)
end Mine
end
section
set_option maxHeartbeats 8000000
open PySem PySem.W PyProof.Rows PySem.Calls PySem.Builtin
namespace Mine
variable [Bs]
noncomputable abbrev elemN : Str := Str.ofString "elem"
noncomputable def yieldS (p1 p2 p3 : Pos) : Stmt := .Expr (.Yield (some (.Name elemN p1)) p2) p3
noncomputable def sel (pass : Value → Bool) (rt : List (Value × Value)) : List Value := (rt.filter fun x => pass x.2).map (·.1)
/- one turn of a selecting loop: it comes to the yield if the tag passes -/
noncomputable def Turn (w : World) (A : Around) (env : Env) (body : List Stmt) (ys : Stmt) (GG : Heap → Prop) (rt : List (Value × Value)) (pass : Value → Bool) : Prop :=
  ∀ v t, (v, t) ∈ rt → ∀ (R : GenEnd) (Y : Protocol) (n : Nat) (s₀ : Shared) (c : Code) (fs : List Frame) (K : Flow → Sem Fin) (H : Value → Sem Fin) (s : Shared) (l : List (Str × Value)), (A.over c fs).handled = none →
    GG s.heap → Loc s.heap env.locals l → l.lookup elemN = some v →
    (∀ h' tk l', GG h' → Loc h' env.locals l' → l'.lookup elemN = some v → Ext (At env.locals) s.heap h' →
      if pass t = true then ∀ K₀, K₀ .next = K .next → Seg (model PG w) A R Y n s₀ c ((execs [ys] env).wrap K₀ H id id) fs { s with heap := h', toks := tk } else Seg (model PG w) A R Y n s₀ c (K .next) fs { s with heap := h', toks := tk }) →
    Seg (model PG w) A R Y n s₀ c ((execs body env).wrap K H id id) fs s
/- what the loop leans on -/
structure Lean_ (w : World) (Fr lo hi ra N N' : Nat) (rt : List (Value × Value)) (GG : Heap → Prop) : Prop where
  g1 : ∀ h h', GG h → Ext (Wr lo hi ra N N' h) h h' → GG h'
  g2 : ∀ h h', GG h → Ext (Vn Fr N h) h h' → GG h'
  row : ∀ h, GG h → Ls h ra (rt.map (·.1))
  ra : ra < N
  fr : N ≤ Fr ∧ Fr < N'
theorem advTrans {Fr N : Nat} {s₀ s₁ : Shared} {h : Heap} {tk : Nat} (x : Adv0 Fr N s₀ s₁) (y : Ext (Vn Fr N s₁.heap) s₁.heap h) (hn : ∀ b o, s₀.heap.get? b = some o → Vn Fr N s₁.heap b → Vn Fr N s₀.heap b) : Adv0 Fr N s₀ { s₁ with heap := h, toks := tk } := by
  obtain ⟨h', tk', rfl, z⟩ := x
  exact ⟨h, tk, rfl, z.step y hn⟩
/- iterators stay iterators: what was no iterator and not the frame is untouched -/
theorem vnBack {Fr N : Nat} {s₀ s₁ : Shared} (x : Adv0 Fr N s₀ s₁) : ∀ b o, s₀.heap.get? b = some o → Vn Fr N s₁.heap b → Vn Fr N s₀.heap b := fun b o e q => by
  obtain ⟨h', tk', rfl, z⟩ := x
  rcases q with q | ⟨q, o', vs, ho', hc', hd', hs'⟩
  · exact .inl q
  · by_cases k : Vn Fr N s₀.heap b
    · exact k
    · obtain ⟨o'', e1, e2, e3, _⟩ := z.data e k
      rw [show ({ s₀ with heap := h', toks := tk' } : Shared).heap.get? b = h'.get? b from rfl, e1] at ho'
      cases ho'
      exact .inr ⟨q, o, vs, e, e3 ▸ hc', e2 ▸ hd', hs'⟩
noncomputable abbrev backK (env : Env) (K : Flow → Sem Fin) (H : Value → Sem Fin) (c : Code) (p : Pos) : Frame :=
  .ret (fun r => ((match r with | .ok f => (.pure f : Sem Flow) | .error e => .raise e).onRaise fun (x : Value) => do
        if (← field x 1) == Value.none then unsupported "frame.own-activation:exception-without-traceback"
        setFlight x env.frame).wrap K H id id) none (id false) (id []) c p []
theorem overH {A : Around} {c' c : Code} {k : Result → Sem Fin} {g : Bool} {l kp : List Value} {p : Pos} (hh : A.handled = none) : (A.over c' [.ret k none g l c p kp]).handled = none := by
  show (marksOver _ (A.handled, A.handled)).1 = none
  rw [hh]; rfl
theorem liIs {h : Heap} {I l : Addr} {i : Nat} (x : h.IsListIter I l i) : LI h I := let ⟨o, a, b, c⟩ := x; ⟨o, _, a, b, c, fun q t => by simp⟩
theorem selLoop {w : World} {A : Around} {env : Env} {body : List Stmt} {p1 p2 p3 px : Pos} {GG : Heap → Prop} {rt : List (Value × Value)} {pass : Value → Bool} {lo hi ra N N' I : Nat} {K : Flow → Sem Fin} {H : Value → Sem Fin} {c : Code} {p : Pos}
    (hh : A.handled = none) (U : Lean_ w env.locals lo hi ra N N' rt GG) (T : Turn w A.in1 env body (yieldS p1 p2 p3) GG rt pass) (hI : N ≤ I) (hIF : I ≠ env.locals)
    (hK : K .next = leafOf (.ok (.ret .none)))
    (hk : env.scope.kind = .function) (hl : env.kindOf elemN = some .local) (hco : env.scope.isCoroutine = false) (hint : interactive env = false) :
    ∀ (k i : Nat) (s s₀ : Shared), k = rt.length - i → i ≤ rt.length → GG s.heap → (∃ l, Loc s.heap env.locals l) → s.heap.IsListIter I ra i → Adv0 env.locals N s₀ s →
      Seg (model PG w) A.in1 (RR env.locals N) (YY env.locals lo hi ra N N' (sel pass rt)) (sel pass (rt.drop i)).length s₀ (.forLoop (.Name elemN px) (.ref I) body [] env) ((model PG w).den (.forLoop (.Name elemN px) (.ref I) body [] env)) [backK env K H c p] s := by
  have hh' : ∀ c', (A.in1.over c' [backK env K H c p]).handled = none := fun c' => overH hh
  intro k
  induction k with
  | zero =>
    intro i s s₀ hk0 hi gg ⟨l, FL⟩ hit adv
    have e : i = rt.length := by omega
    refine seg_forLoop (wpAny_pyNext_list_end (hh' _) hit (U.row _ gg).isList (by simp [e]) fun h' x => ?_)
    refine seg_leaf _ ?_
    show Seg _ _ _ _ _ _ _ (K .next) [] _
    rw [hK]
    refine seg_end _ ⟨rfl, by rw [e, List.drop_length]; rfl, advTrans adv (fun b o eb n => ⟨o.slots, x b o (fun q => n (.inr ⟨q ▸ hI, q ▸ liIs hit⟩)) eb, fun _ => rfl⟩) (vnBack adv)⟩
  | succ k ih =>
    intro i s s₀ hk0 hi gg ⟨l, FL⟩ hit adv
    have hlt : i < rt.length := by omega
    have hrow := U.row _ gg
    obtain ⟨⟨v, t⟩, hv⟩ : ∃ x, rt[i]? = some x := ⟨_, List.getElem?_eq_getElem hlt⟩
    have hd : rt.drop i = (v, t) :: rt.drop (i + 1) := by
      rw [List.drop_eq_getElem_cons hlt]; rw [List.getElem?_eq_getElem hlt] at hv; rw [Option.some.inj hv]
    refine seg_forLoop (wpAny_pyNext_list_item (x := v) hit hrow.isList (by simp [hv]) fun h₁ hit₁ sb₁ => ?_)
    have x₁ : Ext (Vn env.locals N s.heap) s.heap h₁ := Ext.sameBut sb₁ (.inr ⟨hI, liIs hit⟩)
    have gg₁ := U.g2 _ _ gg x₁
    have adv₁ : Adv0 env.locals N s₀ { s with heap := h₁ } := advTrans (tk := s.toks) adv x₁ (vnBack adv)
    have FL₁ : Loc h₁ env.locals l := Loc.same FL sb₁ (Ne.symm hIF)
    refine wpAny_assign_Name (Loc.store FL₁ (fun h₂ FL₂ x₂ => ?_) hk hl)
    have x₂' : Ext (Vn env.locals N h₁) h₁ h₂ := x₂.mono fun b q => .inl q
    have gg₂ := U.g2 _ _ gg₁ x₂'
    have adv₂ : Adv0 env.locals N s₀ { s with heap := h₂, toks := s.toks + 1 } := advTrans (s₁ := { s with heap := h₁ }) adv₁ x₂' (vnBack adv₁)
    have hit₂ := itExt hit₁ x₂ hIF
    refine T v t (List.mem_of_getElem? hv) _ _ _ _ _ _ _ _ _ _ (hh' _) gg₂ FL₂ (by simp) fun h₃ tk₃ l₃ gg₃ FL₃ hl₃ x₃ => ?_
    have x₃' : Ext (Vn env.locals N h₂) h₂ h₃ := x₃.mono fun b q => .inl q
    have adv₃ : Adv0 env.locals N s₀ { s with heap := h₃, toks := tk₃ } := advTrans (s₁ := { s with heap := h₂, toks := s.toks + 1 }) adv₂ x₃' (vnBack adv₂)
    have hit₃ := itExt hit₂ x₃ hIF
    split
    · rename_i hp
      intro K₀ hK₀
      have hs : sel pass (rt.drop i) = v :: sel pass (rt.drop (i + 1)) := by rw [hd]; simp [sel, hp]
      rw [hs, List.length_cons]
      refine seg_execs_cons (seg_Expr_Yield (by rfl) rfl (by rfl) (wpAny_mono (Loc.name (E := NoE) FL₃ hl₃ ?_ hk hl) (fun _ _ q => q) fun _ _ q => q.elim) hco hint)
      intro kap hkap
      refine ⟨?_, ?_, adv₃, fun s₄ x₄ => hkap .none s₄ ?_⟩
      · have e1 : sel pass rt = sel pass (rt.take i) ++ v :: sel pass (rt.drop (i + 1)) := by
          rw [← hs]; simp only [sel]; rw [← List.map_append, ← List.filter_append, List.take_append_drop]
        rw [e1]
        simp
      · have e1 : sel pass rt = sel pass (rt.take i) ++ v :: sel pass (rt.drop (i + 1)) := by
          rw [← hs]; simp only [sel]; rw [← List.map_append, ← List.filter_append, List.take_append_drop]
        rw [e1]
        simp
      · show Seg _ _ _ _ _ _ _ (K₀ .next) _ _
        rw [hK₀]
        refine seg_again rfl (ih (i + 1) s₄ s₄ (by omega) hlt (U.g1 _ _ gg₃ x₄) ⟨l₃, FL₃.ext x₄ fun q => q.2.2.2.1 U.fr⟩ (itExt hit₃ x₄ fun q => q.2.2.2.2 (liIs hit₃)) ⟨s₄.heap, s₄.toks, rfl, Ext.refl _ _⟩)
    · rename_i hp
      have hs : sel pass (rt.drop i) = sel pass (rt.drop (i + 1)) := by rw [hd]; simp [sel, hp]
      rw [hs]
      exact seg_again rfl (ih (i + 1) _ s₀ (by omega) hlt gg₃ ⟨l₃, FL₃⟩ hit₃ adv₃)
end Mine
end
section
set_option maxHeartbeats 8000000
open PySem PySem.W PyProof.Rows PySem.Calls PySem.Builtin
namespace Mine
variable [Bs]
noncomputable abbrev resultN : Str := Str.ofString "result"
noncomputable abbrev contextN : Str := Str.ofString "context"
noncomputable abbrev selBody (px pr pf : Pos) (body : List Stmt) : List Stmt := [.For (.Name elemN px) (.Name resultN pr) body [] pf]
theorem selStart {w : World} {A : Around} {env : Env} {body : List Stmt} {p1 p2 p3 px pr pf : Pos} {GG : Heap → Prop} {rt : List (Value × Value)} {pass : Value → Bool} {lo hi ra N N' : Nat} {s : Shared} {l : List (Str × Value)}
    (hh : A.handled = none) (U : Lean_ w env.locals lo hi ra N N' rt GG) (T : Turn w A.in1 env body (yieldS p1 p2 p3) GG rt pass) (gg : GG s.heap) (FL : Loc s.heap env.locals l) (hr : l.lookup resultN = some (.ref ra))
    (hk : env.scope.kind = .function) (hl : env.kindOf elemN = some .local) (hl' : env.kindOf resultN = some .local) (hco : env.scope.isCoroutine = false) (hint : interactive env = false) :
    Seg (model PG w) A.in1 (RR env.locals N) (YY env.locals lo hi ra N N' (sel pass rt)) (sel pass rt).length s (.func (selBody px pr pf body) env) ((model PG w).den (.func (selBody px pr pf body) env)) [] s := by
  refine seg_func (seg_execs_cons (seg_For (Loc.name (E := NoE) FL hr (wpAny_pyIter_list (U.row _ gg).isList fun p => ?_) hk hl')))
  have hsz : env.locals < s.heap.objs.size := FL.lt
  have x : Ext (Vn env.locals N s.heap) s.heap (s.heap.push { cls := .type "list_iterator", data := .fields #[.ref ra, .int 0 0] }) := Ext.push _ _ _
  have h := selLoop (px := px) (c := .func (selBody px pr pf body) env) (p := p) (K := fun f => match f with | .next => (execs [] env).wrap (fun f => .pure (.done (.ret (match f with | .ret v => v | _ => .none)))) (fun e => (leaving env e).wrap (fun _ => .raise e) .raise id id) id id | f => .pure (.done (.ret (match f with | .ret v => v | _ => .none))))
    (H := fun e => (leaving env e).wrap (fun _ => .raise e) .raise id id)
    hh U T (I := s.heap.objs.size) (Nat.le_trans U.fr.1 (Nat.le_of_lt hsz)) (Ne.symm (Nat.ne_of_lt hsz)) rfl hk hl hco hint rt.length 0
    { s with heap := s.heap.push { cls := .type "list_iterator", data := .fields #[.ref ra, .int 0 0] } } s rfl (Nat.zero_le _) (U.g2 _ _ gg x) ⟨l, FL.ext (Ext.push Non _ _) id⟩ ⟨_, Heap.get?_push_size _ rfl, rfl, rfl⟩ ⟨_, s.toks, rfl, x⟩
  rw [List.drop_zero] at h
  exact h
theorem selMake {w : World} {A : Around} {s : Shared} {f : Addr} {o : Obj} {fd : FuncData} {body : List Stmt} {p1 p2 p3 px pr pf : Pos} {GG : Heap → Prop} {rt : List (Value × Value)} {pass : Value → Bool} {lo hi ra N : Nat}
    (hh : A.handled = none) (hd : A.depth < recursionLimit) (hlim : s.heap.NoLimit) (hN : 114 < N) (hNs : N ≤ s.heap.objs.size) (ho : s.heap.get? f = some o) (hdat : o.data = .func fd) (hb : fd.body = .stmts (selBody px pr pf body)) (hcd : s.heap.CodeRec fd.code fd.qualname)
    (hbind : bindArgs fd ⟨[.none, .ref ra], []⟩ = pure [(contextN, .none), (resultN, .ref ra)]) (hco : fd.scope.isCoroutine = false) (hgen : fd.scope.isGenerator = true) (hk : fd.scope.kind = .function)
    (hcell : fd.scope.names.all (fun x => x.2 != .cell) = true) (hle : fd.scope.names.lookup elemN = some .local) (hlr : fd.scope.names.lookup resultN = some .local) (hlc : fd.scope.names.lookup contextN = some .local)
    (U : ∀ Fr N', s.heap.objs.size ≤ Fr → Fr < N' → Lean_ w Fr lo hi ra N N' rt GG)
    (T : ∀ Fr, s.heap.objs.size ≤ Fr → Turn w A.in1 (newEnv fd.scope Fr fd.globals fd.closure (fd.qualname ++ ".<locals>.") (some f) fd.code none fd.builtins) body (yieldS p1 p2 p3) GG rt pass) (gg : GG s.heap) :
    codeAny (model PG w) A (.call (.ref f) ⟨[.none, .ref ra], []⟩) (fun r s' => ∃ a g h' gs tk Fr, r = .ok (.ret (.ref a)) ∧ s' = { s with heap := h', gens := gs, toks := tk } ∧ Ext Non s.heap h' ∧ (AllBare s.gens → AllBare gs) ∧ s.heap.objs.size ≤ Fr ∧ N ≤ Fr ∧ Fr < h'.objs.size ∧ h'.IsGen a g ∧
      Feed w A (.ref a) (LatG lo hi ra N h'.objs.size) (AdvG Fr N) (eqs (sel pass rt)) s') s := by
  refine codeAny_call_generator hd ho hdat hco hgen hb hcd ?_
  rw [hbind]
  refine wpAny_pure (wpAny_newFunctionEnv (fun x hx => by simpa using List.all_eq_true.mp hcell x hx) ?_ (fun h₁ ns₁ sb₁ => ?_) hk)
  · intro x hx
    rcases List.mem_cons.mp hx with rfl | hx
    · exact hlc
    · rw [List.mem_singleton.mp hx]; exact hlr
  · have x₁ : Ext Non s.heap h₁ := Ext.of (fun b o e => sb₁.extBut b o (Nat.ne_of_lt (Heap.lt_size e)) (Heap.get?_push_of_some _ e)) _
    have hsz : h₁.objs.size = s.heap.objs.size + 1 := by rw [sb₁.1, Heap.size_push]
    refine ⟨limExt hlim x₁ id, ?_⟩
    dsimp only
    generalize hh₂ : h₁.push _ = h₂
    have x₂ : Ext Non h₁ h₂ := by rw [← hh₂]; exact Ext.push _ _ _
    have hsz₂ : h₂.objs.size = h₁.objs.size + 1 := by rw [← hh₂, Heap.size_push]
    have U' := U s.heap.objs.size h₂.objs.size (Nat.le_refl _) (by omega)
    have G₂ : h₂.IsGen h₁.objs.size s.gens.size := by rw [← hh₂]; exact ⟨_, _, _, Heap.get?_push_size _ rfl, rfl, rfl, rfl⟩
    have gg₂ : GG h₂ := U'.g1 _ _ gg ((x₁.non x₂).mono fun _ q => q.elim)
    refine ⟨h₁.objs.size, s.gens.size, h₂, _, _, s.heap.objs.size, rfl, rfl, x₁.non x₂, fun b => b.push rfl, Nat.le_refl _, hNs, by omega, G₂, ?_⟩
    have hR := readyFeed (w := w) (A := A) (Fr := s.heap.objs.size) (lo := lo) (hi := hi) (ra := ra) (N := N) (N' := h₂.objs.size) (a := h₁.objs.size) (g := s.gens.size) (yl := sel pass rt) hh hd ⟨by omega, by omega⟩ (by omega) hN hNs (sel pass rt).length
      { s with heap := h₂, gens := s.gens.push (.fresh (.func (selBody px pr pf body) (newEnv fd.scope s.heap.objs.size fd.globals fd.closure (fd.qualname ++ ".<locals>.") (some f) fd.code none fd.builtins))), toks := s.toks + [(contextN, Value.none), (resultN, Value.ref ra)].length + 1 + 1 }
      (Nat.le_refl _) ⟨G₂, limExt hlim (x₁.non x₂) id, _, Array.getElem?_push_size .., fun s₃ x₃ => ⟨rfl, ?_⟩⟩
    · rw [Nat.sub_self, List.drop_zero] at hR
      exact hR
    · refine selStart (env := newEnv fd.scope s.heap.objs.size fd.globals fd.closure (fd.qualname ++ ".<locals>.") (some f) fd.code none fd.builtins) (l := [(resultN, .ref ra), (contextN, .none)]) hh U' (T _ (Nat.le_refl _)) (U'.g1 _ _ gg₂ x₃) ?_ rfl hk hle hlr hco ?_
      · exact Loc.ext (Loc.ext (h := h₁) (L := s.heap.objs.size) (l := [(resultN, .ref ra), (contextN, .none)]) ns₁ x₂ id) x₃ fun q => q.2.2.2.1 U'.fr
      · show (fd.scope.kind == .module && _) = false
        rw [hk]; rfl
end Mine
end
section
set_option maxHeartbeats 8000000
open PySem PySem.W PyProof.Rows PySem.Calls PySem.Builtin PySem.Builtin.Str
namespace Mine
variable [Bs]
theorem mro_slice : mroOf (.type "slice") = pure [.type "slice", .type "object"] := by rw [mroOf_type]; kernel_rfl
theorem lookup_slice_new : typeLookup (.type "slice") "__new__" = pure (some (.builtin "slice.__new__")) := by rw [typeLookup_type, builtinLookup_eq_fast]; kernel_rfl
theorem slot_slice_init : Slot "slice" "__init__" "object.__init__" := .of (owner := "object") (n := "__init__") (by rw [typeLookup_type, builtinLookup_eq_fast]; kernel_rfl) (by decide +kernel) (by decide +kernel) (by decide +kernel)
    (by first | exact .inl (by decide +kernel) | exact .inr (by decide +kernel)) (by rw [isSubtype_type]; kernel_rfl)
theorem called_slice : TypeCalled "slice" "slice.__new__" "object.__init__" :=
  ⟨by decide +kernel, by decide +kernel, ⟨_, _, mro_slice⟩, madeBy_type mro_slice lookup_slice_new (by decide +kernel), by decide +kernel, by rw [isSubtype_type]; kernel_rfl, slot_slice_init⟩
theorem entry_slice_new : entryFor table "slice.__new__" = some Builtin.«slice.__new__» := entryFor_of_tree (by kernel_rfl)
theorem typeCall_slice_2 (a b : Value) : checkTypeCall "slice" ⟨[a, b], []⟩ = pure () := by kernel_rfl
theorem newCall_slice_2 (a b : Value) : checkBuiltinCall "slice.__new__" ⟨[.type "slice", a, b], []⟩ = pure () := by kernel_rfl
theorem slice_meets (a b : Value) (hsub : isSubtype (.type "slice") (.type "slice") = pure true) :
    Meets (Builtin.«slice.__new__» ⟨[.type "slice", a, b], []⟩) (fun _ R s => R (.ok (.ret (Value.ref s.heap.objs.size))) { s with heap := s.heap.push { cls := Value.type "slice", data := Data.fields #[a, b, .none] } }) :=
  .of_wp fun prog w A R s h => by obtain ⟨hp, g, d, tk, os⟩ := s; wp_walk; exact ⟨_, rfl, h⟩
theorem boot_slice : bootBuiltins (Str.ofString "slice") = some (.type "slice") := by kernel_rfl
theorem nsIn_slice (p : Params) : nsIn (heapK p) mainGlobals (Str.ofString "slice") = some none := by kernel_rfl
section
variable {w : World} {A : Around} {E : Value → Shared → Prop} {s : Shared} {env : Env} {mg mb : Str → Option Value}
theorem call_slice {a b : Value} {Q : Value → Shared → Prop} (h : Q (.ref s.heap.objs.size) { s with heap := s.heap.push { cls := .type "slice", data := .fields #[a, b, .none] } }) :
    wpAny (model PG w) A (call (.type "slice") [a, b]) Q E s :=
  callType_new called_slice (by decide) (typeCall_slice_2 _ _) (newCall_slice_2 _ _) (fun obj => PySem.F.initArgs_range_2 obj _ _) entry_slice_new (slice_meets a b called_slice.sub) ⟨⟨_, Heap.get?_push_size _ rfl, rfl⟩, h⟩
theorem slice_ {np cpos : Pos} {e₁ e₂ : Expr} {Q : Value → Shared → Prop} (G : Gd w mg mb s.heap)
    (h : wpAny (model PG w) A (eval e₁ env) (fun a s₁ => wpAny (model PG w) A (eval e₂ env) (fun b s₂ => Q (.ref s₂.heap.objs.size) { s₂ with heap := s₂.heap.push { cls := .type "slice", data := .fields #[a, b, .none] } }) E s₁) E s)
    (hk : env.scope.kind = .function := by rfl) (hl : env.kindOf (Str.ofString "slice") = some .globalImplicit := by rfl) (hg : env.globals = mainGlobals := by rfl) (hb : env.builtins = builtinsNs := by rfl)
    (he : starEach [e₁, e₂] env = [(false, eval e₁ env), (false, eval e₂ env)] := by rfl) : wpAny (model PG w) A (eval (.Call (.Name (Str.ofString "slice") np) [e₁, e₂] [] cpos) env) Q E s := by
  refine wpAny_Call_ofName (Gd.built G (nsIn_slice _) boot_slice ?_ (by decide) hk hl hg hb)
  rw [he]
  exact PyProof.Rows.callWith_type rfl (evalArgs_plain (spliced_cons (wpAny_mono h (fun a s₁ h₁ => spliced_cons (wpAny_mono h₁ (fun b s₂ h₂ => spliced_nil (call_slice h₂)) fun _ _ x => x)) fun _ _ x => x)))
theorem madeStr {x : Str} {t : Tok} {l u : Option (Int × Tok)} {Q : Value → Shared → Prop} (hx : x.length ≤ sizeLine) (h : ∀ t' tk, Q (.str (Txt.slice x (l.map (·.1)) (u.map (·.1))) t') { s with toks := tk }) : (sliceMade x t l u none).post Q s := by
  unfold sliceMade
  unfold Txt.slice at h
  have e : slicePicked x l u none = strSliceIndices (l.map (·.1)) (u.map (·.1)) 1 x.length := rfl
  rw [e]
  have e2 : (((none : Option (Int × Tok)).map (·.1)).getD 1 == 1) = ((1 : Int) == 1) := rfl
  rw [e2]
  split
  · rename_i q
    rw [if_pos q] at h
    exact h t s.toks
  · rename_i q
    rw [if_neg q] at h
    refine ⟨?_, ?_⟩
    · show (List.filterMap _ _).toArray.size ≤ sizeLine
      rw [List.size_toArray]
      exact Nat.le_trans (List.length_filterMap_le _ _) (Nat.le_trans (sliceIndices_le _ _ _) hx)
    · exact h _ _
theorem strCut {value : Expr} {lower upper : Option Expr} {p pos : Pos} {Q : Value → Shared → Prop}
    (h : wpAny (model PG w) A (eval value env) (fun o s₁ => wpAny (model PG w) A (evalPart lower env) (fun vl s₂ => wpAny (model PG w) A (evalPart upper env) (fun vu s₃ =>
      ∃ x t l u, o = .str x t ∧ vl = partValue l ∧ vu = partValue u ∧ x.length ≤ sizeLine ∧ ∀ h' t' tk, Ext Non s₃.heap h' → Q (.str (Txt.slice x (l.map (·.1)) (u.map (·.1))) t') { s₃ with heap := h', toks := tk }) E s₂) E s₁) E s)
    (ht : ∀ o r, letTemporaryGo value o r = pure () := by intro _ _; rfl) : wpAny (model PG w) A (eval (.Subscript value (.Slice lower upper none p) pos) env) Q E s := by
  refine wpAny_Subscript_str_slice (wpAny_mono h (fun o s₁ h₁ => wpAny_mono h₁ (fun vl s₂ h₂ => wpAny_mono h₂ (fun vu s₃ h₃ => ?_) fun _ _ x => x) fun _ _ x => x) fun _ _ x => x) ht
  obtain ⟨x, t, l, u, rfl, rfl, rfl, hx, hq⟩ := h₃
  exact ⟨x, t, l, u, rfl, rfl, rfl, madeStr hx fun t' tk => hq _ t' tk (Ext.push _ _ _)⟩
theorem eq_none_str {a : Str} {t : Tok} {Q : Value → Shared → Prop} (h : Q (.bool false) s) : wpAny (model PG w) A (compareOp .Eq .none (.str a t)) Q E s := by
  exact EqNone.eq_none_str h
end
end Mine
end
section
set_option maxHeartbeats 8000000
open PySem PySem.W PyProof.Rows PySem.Calls PySem.Builtin
namespace Mine
variable [Bs]
/- names that live in cells -/
noncomputable abbrev Ce (h : Heap) (cs : List (Str × Addr)) (l : List (Str × Value)) : Prop := ∀ n c, cs.lookup n = some c → h.IsCell c (l.lookup n)
theorem cellExt {X : Addr → Prop} {h h' : Heap} {c : Addr} {v : Option Value} (x : h.IsCell c v) (e : Ext X h h') (n : ¬ X c) : h'.IsCell c v := by
  obtain ⟨o, ho, hd⟩ := x
  exact ⟨o, e.get ho n (.inr fun _ _ z => nomatch (hd.symm.trans z)), hd⟩
theorem Ce.ext {X : Addr → Prop} {h h' : Heap} {cs : List (Str × Addr)} {l : List (Str × Value)} (x : Ce h cs l) (e : Ext X h h') (n : ∀ n c, cs.lookup n = some c → ¬ X c) : Ce h' cs l := fun a c q => cellExt (x a c q) e (n a c q)
theorem cellNe {h : Heap} {c L : Addr} {v : Option Value} {m : Str → Option Value} (x : h.IsCell c v) (y : h.Ns L m) : c ≠ L := fun q => by
  obtain ⟨o, ho, hd⟩ := x
  obtain ⟨o', es, ep, ho', hd', _⟩ := y
  rw [q, ho'] at ho; cases ho; rw [hd] at hd'; cases hd'
section
variable {w : World} {M : Model} {A : Around} {E : Value → Shared → Prop} {s : Shared} {env : Env} {mg mb : Str → Option Value}
theorem cellName {x : Str} {pos : Pos} {c : Addr} {v : Value} {Q : Value → Shared → Prop} (x₁ : s.heap.IsCell c (some v)) (h : Q v s) (hc : env.cells.lookup x = some c := by rfl)
    (hk : env.scope.kind = .function := by rfl) (hl : env.kindOf x = some .cell := by rfl) (hd : (x == ("__debug__" : Str)) = false := by decide) : wpAny M A (eval (.Name x pos) env) Q E s :=
  wpAny_Name (wpAny_loadName_cell hk hl hc x₁ h) hd
theorem freeName {x : Str} {pos : Pos} {c : Addr} {v : Value} {Q : Value → Shared → Prop} (x₁ : s.heap.IsCell c (some v)) (h : Q v s) (hc : env.cells.lookup x = some c := by rfl)
    (hk : env.scope.kind = .function := by rfl) (hl : env.kindOf x = some .free := by rfl) (hd : (x == ("__debug__" : Str)) = false := by decide) (hn : (x == ("__classdict__" : Str)) = false := by decide) : wpAny M A (eval (.Name x pos) env) Q E s :=
  wpAny_Name (wpAny_loadName_free hk hl hc x₁ h hn) hd
theorem Ce.name {x : Str} {pos : Pos} {l : List (Str × Value)} {c : Addr} {v : Value} {Q : Value → Shared → Prop} (C : Ce s.heap env.cells l) (hv : l.lookup x = some v) (h : Q v s) (hc : env.cells.lookup x = some c := by rfl)
    (hk : env.scope.kind = .function := by rfl) (hl : env.kindOf x = some .cell := by rfl) (hd : (x == ("__debug__" : Str)) = false := by decide) : wpAny M A (eval (.Name x pos) env) Q E s :=
  cellName (hv ▸ C x c hc) h hc hk hl hd
theorem Ce.store {x : Str} {l : List (Str × Value)} {c : Addr} {v : Value} {Q : Unit → Shared → Prop} (C : Ce s.heap env.cells l) (ap : env.cells.Pairwise fun x y => x.2 ≠ y.2)
    (h : ∀ h', Ce h' env.cells ((x, v) :: l) → Ext (At c) s.heap h' → Q () { s with heap := h' }) (hc : env.cells.lookup x = some c := by rfl)
    (hk : env.scope.kind = .function := by rfl) (hl : env.kindOf x = some .cell := by rfl) : wpAny M A (storeName env x v) Q E s := by
  refine wpAny_storeName_cell hk hl hc (C x c hc) fun h' hv hs => h h' (fun n c' e => ?_) (Ext.sameBut hs rfl)
  rw [List.lookup_cons]
  by_cases q : n = x
  · subst q
    rw [hc] at e; cases e
    simpa using hv
  · have hb : (n == x) = false := beq_eq_false_iff_ne.mpr q
    rw [hb]
    exact (C n c' e).sameBut hs fun z => q (name_of_addr ap (mem_of_lookup e) (z ▸ mem_of_lookup hc))
end
noncomputable def Okt (t : Value) : Prop := t = .none ∨ ∃ x u, t = .str x u ∧ 0 < x.length ∧ x.length < 1000
noncomputable abbrev selQ : Str := Str.ofString "_prepare_tag.<locals>.select"
/- what a call of the select that _prepare_tag gave back does -/
noncomputable def SelPost (w : World) (A : Around) (N : Nat) (pass : Value → Bool) (lo hi ra : Nat) (rt : List (Value × Value)) (s : Shared) (r : Result) (s' : Shared) : Prop :=
  ∃ a g h' gs tk Fr, r = .ok (.ret (.ref a)) ∧ s' = { s with heap := h', gens := gs, toks := tk } ∧ Ext Non s.heap h' ∧ (AllBare s.gens → AllBare gs) ∧ s.heap.objs.size ≤ Fr ∧ N ≤ Fr ∧ Fr < h'.objs.size ∧ h'.IsGen a g ∧
      Feed w A (.ref a) (LatG lo hi ra N h'.objs.size) (AdvG Fr N) (eqs (sel pass rt)) s'
noncomputable def PrepPost (w : World) (A : Around) (pass : Value → Bool) (s : Shared) (r : Result) (s' : Shared) : Prop :=
  ∃ h' tk f, r = .ok (.ret (.ref f)) ∧ s' = { s with heap := h', toks := tk } ∧ Ext (At 23) s.heap h' ∧ Tab h' 27 23 selQ ∧ (∃ o fd, h'.get? f = some o ∧ o.data = .func fd) ∧
    ∀ lo hi ra rt tk', hi ≤ s.heap.objs.size → ra < s.heap.objs.size → Ls h' ra (rt.map (·.1)) → (∀ v t, (v, t) ∈ rt → El h' lo hi v t ∧ Okt t) →
      codeAny (model PG w) A (.call (.ref f) ⟨[.none, .ref ra], []⟩) (SelPost w A s.heap.objs.size pass lo hi ra rt { s with heap := h', toks := tk' }) { s with heap := h', toks := tk' }
noncomputable def GG (w : World) (mg mb : Str → Option Value) (lo hi ra : Nat) (rt : List (Value × Value)) (cs : List (Str × Addr)) (l : List (Str × Value)) (sl : List (Addr × Obj)) (h : Heap) : Prop :=
  Gd w mg mb h ∧ Ls h ra (rt.map (·.1)) ∧ (∀ v t, (v, t) ∈ rt → El h lo hi v t) ∧ Ce h cs l ∧ ∀ a o, (a, o) ∈ sl → h.get? a = some o
theorem ggLean {w : World} {mg mb : Str → Option Value} {Fr lo hi ra N N' : Nat} {rt : List (Value × Value)} {cs : List (Str × Addr)} {l : List (Str × Value)} {sl : List (Addr × Obj)} (hN : 114 < N) (hhi : hi ≤ N) (hra : ra < N) (hF : N ≤ Fr) (hF' : Fr < N')
    (hcs : ∀ n c, cs.lookup n = some c → N ≤ c ∧ c < Fr) (hsl : ∀ a o, (a, o) ∈ sl → N ≤ a ∧ a < Fr ∧ o.cls ≠ .type "list_iterator" ∧ ∀ es n, o.data ≠ .dict es n) : Lean_ w Fr lo hi ra N N' rt (GG w mg mb lo hi ra rt cs l sl) where
  g1 := fun h h' ⟨a, b, c, d, e⟩ x => ⟨a.ext x fun b q => .inl q.1, b.ext x fun q => q.2.2.1 rfl, fun v t m => (c v t m).ext x fun b u v q => q.2.1 ⟨u, v⟩, d.ext x fun n c y q => q.2.2.2.1 ⟨(hcs n c y).1, Nat.lt_trans (hcs n c y).2 hF'⟩,
    fun a o m => x.get (e a o m) (fun q => q.2.2.2.1 ⟨(hsl a o m).1, Nat.lt_trans (hsl a o m).2.1 hF'⟩) (.inr fun es n z => ((hsl a o m).2.2.2 es n z).elim)⟩
  g2 := fun h h' ⟨a, b, c, d, e⟩ x => by
    refine ⟨a.ext x fun b q => .inl ?_, b.ext x fun q => ?_, fun v t m => (c v t m).ext x fun b u v q => ?_, d.ext x fun n c y q => ?_, fun a o m => x.get (e a o m) (fun q => ?_) (.inr fun es n z => ((hsl a o m).2.2.2 es n z).elim)⟩
    · rcases q with q | q
      · exact q ▸ Nat.lt_of_lt_of_le hN hF
      · exact Nat.lt_of_lt_of_le hN q.1
    · rcases q with q | q
      · rw [q] at hra; exact absurd hF (Nat.not_le.mpr hra)
      · exact absurd q.1 (Nat.not_le.mpr hra)
    · rcases q with q | q
      · rw [q] at v; exact absurd (Nat.lt_of_lt_of_le v hhi) (Nat.not_lt.mpr hF)
      · exact absurd (Nat.lt_of_lt_of_le v hhi) (Nat.not_lt.mpr q.1)
    · rcases q with q | ⟨_, o, vs, ho, _, hdd, _⟩
      · exact absurd (hcs n c y).2 (by rw [q]; exact Nat.lt_irrefl _)
      · obtain ⟨o', ho', hd'⟩ := d n c y
        rw [ho] at ho'; cases ho'; rw [hdd] at hd'; cases hd'
    · rcases q with q | ⟨_, o', vs, ho, hc, _, _⟩
      · exact absurd (hsl a o m).2.1 (by rw [q]; exact Nat.lt_irrefl _)
      · rw [e a o m] at ho; cases ho; exact (hsl a o m).2.2.1 hc
  row := fun h g => g.2.1
  ra := hra
  fr := ⟨hF, hF'⟩
end Mine
end
section
set_option maxHeartbeats 8000000
open PySem PySem.W PyProof.Rows PySem.Calls PySem.Builtin
namespace Mine
variable [Bs]
theorem look1 {x n : Str} {v : Value} : (if n = x then some v else none) = [(x, v)].lookup n := by
  rw [List.lookup_cons]
  by_cases q : n = x
  · simp [q]
  · rw [if_neg q, beq_eq_false_iff_ne.mpr q]; rfl
section
variable {w : World} {A : Around} {E : Value → Shared → Prop} {s : Shared} {env : Env} {mg mb : Str → Option Value}
theorem Def_ {name : Str} {params : Arguments} {body : List Stmt} {scope : Scope} {pos : Pos} {Q : Flow → Shared → Prop} 
    (h : wpAny (model PG w) A (makeFunction name (qualnameIn env name name) params (.stmts body) scope env [] [] [] pos pos.line) (fun f s₁ => wpAny (model PG w) A (storeName env name f) (fun _ s₂ => Q .next s₂) E s₁) E s)
    (hx : exec (.FunctionDef name params body [] none [] scope none name pos) env = (do
      standAt pos
      let f ← holding [] (makeFunction name (qualnameIn env name name) params (.stmts body) scope env [] [] [] pos pos.line)
      standAt pos
      bindName env name f
      pure .next) := by rfl) : wpAny (model PG w) A (exec (.FunctionDef name params body [] none [] scope none name pos) env) Q E s := by
  rw [hx]
  exact wpAny_bind (wpAny_standAt (wpAny_bind (wpAny_holding (wpAny_mono h (fun f s₁ q => wpAny_bind (wpAny_standAt (wpAny_bind (wpAny_bindName (wpAny_mono q (fun _ _ q => wpAny_pure q) fun _ _ q => q))))) fun _ _ q => q))))
theorem isinstF {x : Str} {c : Addr} {e₁ e₂ : Expr} {p pos : Pos} {Q : Value → Shared → Prop} (hc : env.cells.lookup x = some c) (hv : s.heap.IsCell c (some (.builtin "isinstance"))) (hk : env.scope.kind = .function) (hl : env.kindOf x = some .free)
    (h : wpAny (model PG w) A (eval e₁ env) (fun v s₁ => wpAny (model PG w) A (eval e₂ env) (fun c s₂ => wpAny (model PG w) A (call (.builtin "isinstance") [v, c]) Q E s₂) E s₁) E s)
    (hd : (x == ("__debug__" : Str)) = false := by decide) (hn : (x == ("__classdict__" : Str)) = false := by decide)
    (he : starEach [e₁, e₂] env = [(false, eval e₁ env), (false, eval e₂ env)] := by rfl) (he' : starEach [e₂] env = [(false, eval e₂ env)] := by rfl)
    (hcc : eval (.Call (.Name x p) [e₁, e₂] [] pos) env = (do callWith pos (← eval (.Name x p) env) [] (backTo pos (starEach [e₁, e₂] env)) (backToKw pos (keywordEach [] env))) := by rfl) :
    wpAny (model PG w) A (eval (.Call (.Name x p) [e₁, e₂] [] pos) env) Q E s := by
  refine Call_ (freeName hv ?_ hc hk hl hd hn) hcc
  refine callWith_builtin1 (args_cons (wpAny_mono h (fun v s₁ h₁ => ?_) fun _ _ x => x) (by rw [he, he'])) (by rw [he, he']) (by rw [he']; rfl)
  exact args_cons (wpAny_mono h₁ (fun c s₂ h₂ => args_nil h₂) fun _ _ x => x) (by rw [he']; rfl)
end
noncomputable def isStr : Value → Bool
  | .str _ _ => true
  | _ => false
theorem isiStr {w : World} {A : Around} {E : Value → Shared → Prop} {s : Shared} {t : Value} {Q : Value → Shared → Prop} (o : Okt t) (h : ∀ tk, Q (.bool (isStr t)) { s with toks := tk }) : wpAny (model PG w) A (call (.builtin "isinstance") [t, .type "str"]) Q E s := by
  rcases o with rfl | ⟨x, u, rfl, _⟩
  · exact IsiPair.NoneType_str (h _)
  · exact IsiPair.str_str (h s.toks)
theorem hoOk {t : Value} (o : Okt t) : handedOut t = pure t := by
  rcases o with rfl | ⟨x, u, rfl, _⟩ <;> rfl
theorem turn1 {w : World} {A : Around} {env : Env} {GG : Heap → Prop} {rt : List (Value × Value)} {lo hi : Nat} {ca cb : Addr} {p1 p2 p3 p4 p5 p6 q1 q2 q3 : Pos}
    (hk : env.scope.kind = .function) (hl : env.kindOf elemN = some .local) (hi' : env.kindOf (Str.ofString "_isinstance") = some .free) (hs' : env.kindOf (Str.ofString "_str") = some .free) (ha : env.cells.lookup (Str.ofString "_isinstance") = some ca) (hb : env.cells.lookup (Str.ofString "_str") = some cb)
    (gi : ∀ h, GG h → h.IsCell ca (some (.builtin "isinstance"))) (gs : ∀ h, GG h → h.IsCell cb (some (.type "str"))) (ge : ∀ h, GG h → ∀ v t, (v, t) ∈ rt → El h lo hi v t) (ok : ∀ v t, (v, t) ∈ rt → Okt t) :
    Turn w A env [.If (.Call (.Name (Str.ofString "_isinstance") p1) [.Attribute (.Name elemN p2) (Str.ofString "tag") p3, .Name (Str.ofString "_str") p4] [] p5) [yieldS q1 q2 q3] [] p6] (yieldS q1 q2 q3) GG rt isStr := by
  intro v t hm R Y n s₀ c fs K H s l hh gg FL hle hq
  refine seg_execs_cons (seg_If (wpAny_isTrue_value (isinstF ha (gi _ gg) hk hi' (Attribute_Name_ (Loc.name FL hle (getTag (ge _ gg v t hm) (hoOk (ok v t hm)) fun tk => freeName (gs _ gg) (isiStr (ok v t hm) fun tk' => wpAny_truthy_bool ?_) hb hk hs') hk hl)))))
  have := hq s.heap tk' l gg FL hle (Ext.refl _ _)
  split
  · rename_i q
    rw [if_pos q] at this
    exact this _ rfl
  · rename_i q
    rw [if_neg q] at this
    exact seg_execs_nil this
theorem prep1 {w : World} {mg mb : Str → Option Value} {A : Around} {s : Shared} {g : Str} {t : Tok} (G : Gd w mg mb s.heap) (R : Rm A 3) (hs : 114 < s.heap.objs.size) (T : Tab s.heap 27 23 selQ) (hg : (g.cps.toList == (Str.ofString "{*}*").cps.toList) = true) :
    codeAny (model PG w) A (.call (.ref 28) ⟨[.str g t], []⟩) (PrepPost w A isStr s) s := by
  refine call_cells_ret R.d (G.k 28 _ rfl) rfl G.lim (codeRec_of G.k rfl) rfl ?_ (fun h₁ tk F C => ?_)
  · intro x hx; rw [List.mem_singleton.mp hx]; exact .inr ⟨rfl, rfl⟩
  have FL : Loc h₁ s.heap.objs.size [] := F.ns
  have ap := C.apart
  have C1 := C.above
  have CE : Ce h₁ (cellsFrom (s.heap.objs.size + 1) _ []) [(Str.ofString "tag", .str g t)] := fun n c e => by
    have q := C.cell n c e
    change h₁.IsCell c (if n = Str.ofString "tag" then some (.str g t) else none) at q
    rw [look1] at q; exact q
  have E₁ : Ext Non s.heap h₁ := Ext.of F.keep _
  have G₁ : Gd w mg mb h₁ := G.ext E₁ fun _ q => q.elim
  clear F C
  refine wpAny_execs_cons (Assign_Tuple (Tuple_ (args_cons (Gd.built G₁ (nsIn_isinstance _) boot_isinstance' (args_cons (Gd.built G₁ (nsIn_str _) boot_str' (args_nil (wpAny_newObj_type (assign_Tuple_tuple (items := #[.builtin "isinstance", .type "str"]) R.handled ⟨_, Heap.get?_push_size _ rfl, rfl, _, rfl⟩ rfl rfl fun h₂ x₂ => ?_)))))))))
  have X₂ : Ext Non h₁ h₂ := Ext.of (fun b o e => x₂ b o (by rw [Heap.size_push]; exact Nat.ne_of_lt (Nat.lt_succ_of_lt (Heap.lt_size e))) (Heap.get?_push_of_some _ e)) _
  clear x₂
  have FL₂ := Loc.ext FL X₂ id
  have CE₂ := CE.ext X₂ fun _ _ _ q => q
  refine assignInOrder_cons (assign_Name (Ce.store CE₂ ap fun h₃ CE₃ x₃ => assignInOrder_cons (assign_Name (Ce.store CE₃ ap fun h₄ CE₄ x₄ => assignInOrder_nil ?_))))
  have hc : ∀ {n c}, (cellsFrom (s.heap.objs.size + 1) _ []).lookup n = some c → s.heap.objs.size < c := fun e => C1 _ _ (mem_of_lookup e)
  have c1 := hc (n := Str.ofString "_isinstance") rfl
  have c2 := hc (n := Str.ofString "_str") rfl
  have FL₃ := Loc.ext FL₂ x₃ (Nat.ne_of_lt c1)
  have FL₄ := Loc.ext FL₃ x₄ (Nat.ne_of_lt c2)
  have e₄ : Ext Non s.heap h₄ := ((E₁.non X₂).st x₃ (Nat.le_of_lt c1)).st x₄ (Nat.le_of_lt c2)
  have G₄ : Gd w mg mb h₄ := G.ext e₄ fun _ q => q.elim
  clear x₃ x₄ FL₃ CE₃ CE₂ FL₂ X₂ CE
  refine wpAny_execs_cons (wpAny_If (wpAny_isTrue_Compare1 (Ce.name (s := { s with heap := h₄, toks := _ }) CE₄ rfl (Constant_str (P.eq_str (wpAny_truthy_bool ?_))))))
  rw [if_pos hg]
  have hsz₄ : s.heap.objs.size < h₄.objs.size := FL₄.lt
  refine wpAny_execs_cons (Def_ (mkFn (s := { s with heap := h₄, toks := _ }) (c := 27) (P := 23) (q := selQ) G₄ rfl (T.non e₄ (by decide) (by decide)) (Nat.lt_trans hs hsz₄) rfl (fun b e => by cases e; rfl) fun f c' h₅ tk₅ ct pm hf hf' x₅ T₅ hc' rec fo => ?_))
  have nP : ∀ b, 114 < b → ¬ (b = 23) := fun b q z => by rw [z] at q; exact absurd q (by decide)
  have FL₅ := Loc.ext FL₄ x₅ (nP _ hs)
  have CE₅ := CE₄.ext x₅ fun n c e => nP _ (Nat.lt_trans hs (C1 _ _ (mem_of_lookup e)))
  refine Loc.store FL₅ fun h₆ FL₆ x₆ => wpAny_execs_nil ?_
  have e₆ : Ext (At 23) s.heap h₆ := ((e₄.mono fun _ q => q.elim).trans x₅).st x₆ (Nat.le_refl _)
  have T₆ := T₅.ext x₆ (by decide) (by decide) fun b q => .inr ⟨by rw [show b = s.heap.objs.size from q]; exact hs, by rw [show b = s.heap.objs.size from q]; exact .ns FL₅⟩
  have CE₆ := CE₅.ext x₆ fun n c e => fun q => absurd (C1 _ _ (mem_of_lookup e)) (by rw [show c = s.heap.objs.size from q]; exact Nat.lt_irrefl _)
  have fo₆ := x₆.get fo (fun q => by rw [show f = s.heap.objs.size from q] at hf; exact absurd hsz₄ (Nat.not_lt.mpr hf)) (.inr fun _ _ z => nomatch z)
  have rec₆ := codeExt rec x₆ fun q => codeNC rec (by rw [show c' = s.heap.objs.size from q]; exact .ns FL₅)
  have G₆ : Gd w mg mb h₆ := G.ext e₆ fun b q => .inr (.inl q)
  refine wpAny_execs_cons (wpAny_Return_some (Loc.name FL₆ rfl ⟨h₆, _, f, rfl, rfl, e₆, T₆, ⟨_, _, fo₆, rfl⟩, fun lo hi ra rt tk' hhi hra hrow hel => ?_⟩))
  refine selMake (N := s.heap.objs.size) (GG := GG w mg mb lo hi ra rt (cellsFrom (s.heap.objs.size + 1) _ []) [(Str.ofString "_str", .type "str"), (Str.ofString "_isinstance", .builtin "isinstance"), (Str.ofString "tag", .str g t)] []) R.handled R.d G₆.lim hs (Nat.le_of_lt FL₆.lt) fo₆ rfl rfl rec₆ rfl rfl rfl rfl rfl rfl rfl rfl (fun Fr N' a b => ggLean hs hhi hra (Nat.le_trans (Nat.le_of_lt FL₆.lt) a) b (fun n c e => ⟨Nat.le_of_lt (C1 _ _ (mem_of_lookup e)), Nat.lt_of_lt_of_le (CE₆ n c e).lt a⟩) fun _ _ m => nomatch m)
    (fun Fr _ => turn1 (lo := lo) (hi := hi) rfl rfl rfl rfl rfl rfl (fun h g => g.2.2.2.1 (Str.ofString "_isinstance") _ rfl) (fun h g => g.2.2.2.1 (Str.ofString "_str") _ rfl) (fun h g => g.2.2.1) fun v t m => (hel v t m).2) ⟨G₆, hrow, fun v t m => (hel v t m).1, CE₆, fun _ _ m => nomatch m⟩
end Mine
end
section
set_option maxHeartbeats 8000000
open PySem PySem.W PyProof.Rows PySem.Calls PySem.Builtin PySem.Builtin.Str
namespace Mine
variable [Bs]
noncomputable abbrev elTag : Str := Str.ofString "el_tag"
theorem turnB {w : World} {A : Around} {env : Env} {GG : Heap → Prop} {rt : List (Value × Value)} {lo hi : Nat} {pass : Value → Bool} {test : Expr} {p1 p2 p3 p4 p5 q1 q2 q3 : Pos}
    (hk : env.scope.kind = .function) (hl : env.kindOf elemN = some .local) (hl' : env.kindOf elTag = some .local) (gF : ∀ h h', GG h → Ext (At env.locals) h h' → GG h') (ge : ∀ h, GG h → ∀ v t, (v, t) ∈ rt → El h lo hi v t) (ok : ∀ v t, (v, t) ∈ rt → Okt t)
    (ht : ∀ v t, (v, t) ∈ rt → ∀ (A' : Around) (s : Shared) (l : List (Str × Value)), GG s.heap → Loc s.heap env.locals l → l.lookup elTag = some t → wpAny (model PG w) A' (isTrue test env (eval test env)) (fun b s' => b = pass t ∧ ∃ tk, s' = { s with toks := tk }) NoE s)
    (hsw : swapsWith (.Attribute (.Name elemN p2) (Str.ofString "tag") p3) (some (.Name elTag p1)) p4.line env = pure false := by rfl) :
    Turn w A env [.Assign [.Name elTag p1] (.Attribute (.Name elemN p2) (Str.ofString "tag") p3) p4, .If test [yieldS q1 q2 q3] [] p5] (yieldS q1 q2 q3) GG rt pass := by
  intro v t hm R Y n s₀ c fs K H s l hh gg FL hle hq
  refine seg_execs_cons (seg_st (wpAny_Assign_Name (Attribute_Name_ (Loc.name FL hle (getTag (ge _ gg v t hm) (hoOk (ok v t hm)) fun tk => Loc.store FL (fun h₁ FL₁ x₁ => ?_) hk hl') hk hl))))
  refine ⟨rfl, seg_execs_cons (seg_If (wpAny_mono (ht v t hm _ { s with heap := h₁, toks := _ } _ (gF _ _ gg x₁) FL₁ (by simp)) (fun b s' q => ?_) fun _ _ q => q))⟩
  obtain ⟨rfl, tk', rfl⟩ := q
  have hle' : ((elTag, t) :: l).lookup elemN = some v := by rw [List.lookup_cons, show (elemN == elTag) = false by decide]; exact hle
  have := hq h₁ tk' _ (gF _ _ gg x₁) FL₁ hle' x₁
  split
  · rename_i q
    rw [if_pos q] at this
    exact this _ rfl
  · rename_i q
    rw [if_neg q] at this
    exact seg_execs_nil this
/- what the three longer tests say -/
noncomputable def pass2 : Value → Bool
  | .str x _ => match x.cps[0]? with | some c => ((⟨#[c]⟩ : Str).cps.toList != (Str.ofString "{").cps.toList) | none => false
  | _ => false
noncomputable def pass4 (ns : Str) : Value → Bool
  | .str x _ => (Txt.slice x none (some (ns.length : Int))).cps.toList == ns.cps.toList
  | _ => false
noncomputable def pass3 (tag suffix : Str) : Value → Bool
  | .str x _ => (x.cps.toList == tag.cps.toList) || ((Txt.slice x (some (-(suffix.length : Int))) none).cps.toList == suffix.cps.toList)
  | _ => false
section
variable {w : World} {A : Around} {env : Env} {s : Shared} {l : List (Str × Value)} {t : Value} {ca cb : Addr} {E : Value → Shared → Prop}
theorem testIs {p1 p2 p3 p4 : Pos} {whole : Sem Value} {Q : Bool → Shared → Prop} (hk : env.scope.kind = .function) (hl' : env.kindOf elTag = some .local) (hi' : env.kindOf (Str.ofString "_isinstance") = some .free) (hs' : env.kindOf (Str.ofString "_str") = some .free) (ha : env.cells.lookup (Str.ofString "_isinstance") = some ca) (hb : env.cells.lookup (Str.ofString "_str") = some cb)
    (gi : s.heap.IsCell ca (some (.builtin "isinstance"))) (gs : s.heap.IsCell cb (some (.type "str"))) (ok : Okt t) (FL : Loc s.heap env.locals l) (hle : l.lookup elTag = some t) (h : ∀ tk, Q (isStr t) { s with toks := tk }) :
    wpAny (model PG w) A (isTrue (.Call (.Name (Str.ofString "_isinstance") p1) [.Name elTag p2, .Name (Str.ofString "_str") p3] [] p4) env (eval (.Call (.Name (Str.ofString "_isinstance") p1) [.Name elTag p2, .Name (Str.ofString "_str") p3] [] p4) env)) Q E s :=
  wpAny_isTrue_value (isinstF ha gi hk hi' (Loc.name FL hle (freeName gs (isiStr ok fun tk => wpAny_truthy_bool (h tk)) hb hk hs') hk hl'))
theorem cutBy {value slice : Expr} {x : Str} {u : Tok} {a : Addr} {lo up : Option (Int × Tok)} {Q : Value → Shared → Prop} (hs : s.heap.IsSlice a lo up none) (hx : x.length < 1000) (h : ∀ t' tk, Q (.str (Txt.slice x (lo.map (·.1)) (up.map (·.1))) t') { s with toks := tk })
    (hss : subscripted slice false (.str x u) (.ref a) = operate [.str x u, .ref a] (getItem (.str x u) (.ref a)) := by with_unfolding_all rfl) : wpAny (model PG w) A (subscriptTail value slice (.str x u) (.ref a)) Q E s :=
  tail_any (typeIs_str _ _ _) PySem.F.slot_str_getitem.lookup (wpAny_getItem_str_slice (st := none) hs rfl (madeStr (by rw [sizeLine_eq]; omega) h)) hss
theorem charAt {value slice : Expr} {x : Str} {u v : Tok} {c : Nat} {Q : Value → Shared → Prop} (hc : x.cps[0]? = some c) (h : ∀ t' tk, Q (.str ⟨#[c]⟩ t') { s with toks := tk })
    (hss : subscripted slice false (.str x u) (.int 0 v) = operate [.str x u, .int 0 v] (getItem (.str x u) (.int 0 v)) := by with_unfolding_all rfl) : wpAny (model PG w) A (subscriptTail value slice (.str x u) (.int 0 v)) Q E s := by
  have hl : 0 < x.cps.size := (Array.getElem?_eq_some_iff.mp hc).1
  have e : seqIndex? 0 x.length = some 0 := by
    unfold seqIndex?
    simp [Str.length, hl]
  refine tail_any (typeIs_str _ _ _) PySem.F.slot_str_getitem.lookup (P.getItem_str (c := c) (by decide) (by rw [e]; exact hc) (h _ _)) hss
theorem test2 {p1 p2 p3 p4 p5 p6 p7 p8 p9 p10 : Pos} {k1 : Nat} {whole : Sem Value} (hk : env.scope.kind = .function) (hl' : env.kindOf elTag = some .local) (hi' : env.kindOf (Str.ofString "_isinstance") = some .free) (hs' : env.kindOf (Str.ofString "_str") = some .free) (ha : env.cells.lookup (Str.ofString "_isinstance") = some ca) (hb : env.cells.lookup (Str.ofString "_str") = some cb)
    (gi : s.heap.IsCell ca (some (.builtin "isinstance"))) (gs : s.heap.IsCell cb (some (.type "str"))) (ok : Okt t) (FL : Loc s.heap env.locals l) (hle : l.lookup elTag = some t) :
    wpAny (model PG w) A (isTrue (.BoolOp .And [.Call (.Name (Str.ofString "_isinstance") p1) [.Name elTag p2, .Name (Str.ofString "_str") p3] [] p4, .Compare (.Subscript (.Name elTag p5) (.Constant (.int 0) k1 p6) p7) [.NotEq] [.Constant (.str (Str.ofString "{")) 0 p8] p9] p10) env whole)
      (fun b s' => b = pass2 t ∧ ∃ tk, s' = { s with toks := tk }) E s := by
  refine wpAny_isTrue_BoolOp (wpAny_allTrue_And_cons (testIs (whole := whole) hk hl' hi' hs' ha hb gi gs ok FL hle fun tk => ?_))
  rcases ok with rfl | ⟨x, u, rfl, h0, h1⟩
  · exact ⟨rfl, tk, rfl⟩
  · obtain ⟨c, hc⟩ : ∃ c, x.cps[0]? = some c := ⟨_, Array.getElem?_eq_getElem h0⟩
    refine wpAny_allTrue_And_cons (wpAny_isTrue_Compare1 (Subscript_ (Loc.name FL hle (wpAny_Constant_int (charAt hc fun t' tk' => Constant_str (P.ne_str (wpAny_truthy_bool ?_)))) hk hl')))
    have e : pass2 (.str x u) = (((⟨#[c]⟩ : Str).cps.toList != (Str.ofString "{").cps.toList)) := by
      show (match x.cps[0]? with | some c => ((⟨#[c]⟩ : Str).cps.toList != (Str.ofString "{").cps.toList) | none => false) = _
      rw [hc]
    split
    · rename_i q; exact wpAny_allTrue_And_nil ⟨by rw [e, q], _, rfl⟩
    · rename_i q; exact ⟨by rw [e]; exact (Bool.eq_false_iff.mpr q).symm, _, rfl⟩
theorem test4 {p1 p2 p3 p4 p5 p6 p7 p8 p9 p10 : Pos} {whole : Sem Value} {a cn cs : Addr} {ns : Str} {un ut : Tok} (hk : env.scope.kind = .function) (hl' : env.kindOf elTag = some .local) (hi' : env.kindOf (Str.ofString "_isinstance") = some .free) (hs' : env.kindOf (Str.ofString "_str") = some .free) (ha : env.cells.lookup (Str.ofString "_isinstance") = some ca) (hb : env.cells.lookup (Str.ofString "_str") = some cb)
    (hn' : env.kindOf (Str.ofString "ns") = some .free) (ho' : env.kindOf (Str.ofString "ns_only") = some .free) (hn : env.cells.lookup (Str.ofString "ns") = some cn) (ho : env.cells.lookup (Str.ofString "ns_only") = some cs) (gn : s.heap.IsCell cn (some (.str ns un))) (go : s.heap.IsCell cs (some (.ref a))) (gl : s.heap.IsSlice a none (some ((ns.length : Int), ut)) none)
    (gi : s.heap.IsCell ca (some (.builtin "isinstance"))) (gs : s.heap.IsCell cb (some (.type "str"))) (ok : Okt t) (FL : Loc s.heap env.locals l) (hle : l.lookup elTag = some t) :
    wpAny (model PG w) A (isTrue (.BoolOp .And [.Call (.Name (Str.ofString "_isinstance") p1) [.Name elTag p2, .Name (Str.ofString "_str") p3] [] p4, .Compare (.Subscript (.Name elTag p5) (.Name (Str.ofString "ns_only") p6) p7) [.Eq] [.Name (Str.ofString "ns") p8] p9] p10) env whole)
      (fun b s' => b = pass4 ns t ∧ ∃ tk, s' = { s with toks := tk }) E s := by
  refine wpAny_isTrue_BoolOp (wpAny_allTrue_And_cons (testIs (whole := whole) hk hl' hi' hs' ha hb gi gs ok FL hle fun tk => ?_))
  rcases ok with rfl | ⟨x, u, rfl, h0, h1⟩
  · exact ⟨rfl, tk, rfl⟩
  · refine wpAny_allTrue_And_cons (wpAny_isTrue_Compare1 (Subscript_ (Loc.name FL hle (freeName go (cutBy gl h1 fun t' tk' => freeName gn (P.eq_str (wpAny_truthy_bool ?_)) hn hk hn') ho hk ho') hk hl')))
    split
    · rename_i q; exact wpAny_allTrue_And_nil ⟨q.symm, _, rfl⟩
    · rename_i q; exact ⟨(Bool.eq_false_iff.mpr q).symm, _, rfl⟩
theorem test3 {p1 p2 p3 p4 p5 p6 p7 p8 p9 p10 p11 p12 p13 p14 : Pos} {whole : Sem Value} {a cn cs ct : Addr} {tag suffix : Str} {un ut ug : Tok} (hk : env.scope.kind = .function) (hl' : env.kindOf elTag = some .local) (hi' : env.kindOf (Str.ofString "_isinstance") = some .free) (hs' : env.kindOf (Str.ofString "_str") = some .free) (ha : env.cells.lookup (Str.ofString "_isinstance") = some ca) (hb : env.cells.lookup (Str.ofString "_str") = some cb)
    (hn' : env.kindOf (Str.ofString "suffix") = some .free) (ho' : env.kindOf (Str.ofString "no_ns") = some .free) (ht' : env.kindOf (Str.ofString "tag") = some .free) (hn : env.cells.lookup (Str.ofString "suffix") = some cn) (ho : env.cells.lookup (Str.ofString "no_ns") = some cs) (ht : env.cells.lookup (Str.ofString "tag") = some ct)
    (gn : s.heap.IsCell cn (some (.str suffix un))) (go : s.heap.IsCell cs (some (.ref a))) (gt : s.heap.IsCell ct (some (.str tag ug))) (gl : s.heap.IsSlice a (some (-(suffix.length : Int), ut)) none none)
    (gi : s.heap.IsCell ca (some (.builtin "isinstance"))) (gs : s.heap.IsCell cb (some (.type "str"))) (ok : Okt t) (FL : Loc s.heap env.locals l) (hle : l.lookup elTag = some t) :
    wpAny (model PG w) A (isTrue (.BoolOp .Or [.Compare (.Name elTag p11) [.Eq] [.Name (Str.ofString "tag") p12] p13, .BoolOp .And [.Call (.Name (Str.ofString "_isinstance") p1) [.Name elTag p2, .Name (Str.ofString "_str") p3] [] p4, .Compare (.Subscript (.Name elTag p5) (.Name (Str.ofString "no_ns") p6) p7) [.Eq] [.Name (Str.ofString "suffix") p8] p9] p10] p14) env whole)
      (fun b s' => b = pass3 tag suffix t ∧ ∃ tk, s' = { s with toks := tk }) E s := by
  rcases ok with rfl | ⟨x, u, rfl, h0, h1⟩
  · refine wpAny_isTrue_BoolOp (wpAny_allTrue_Or_cons (wpAny_isTrue_Compare1 (Loc.name FL hle (freeName gt (eq_none_str (wpAny_truthy_bool ?_)) ht hk ht') hk hl')))
    simp only [Bool.false_eq_true, if_false]
    refine wpAny_allTrue_Or_cons (wpAny_isTrue_BoolOp (wpAny_allTrue_And_cons (testIs (whole := whole) hk hl' hi' hs' ha hb gi gs (.inl rfl) FL hle fun tk => ?_)))
    exact wpAny_allTrue_Or_nil ⟨rfl, tk, rfl⟩
  · refine wpAny_isTrue_BoolOp (wpAny_allTrue_Or_cons (wpAny_isTrue_Compare1 (Loc.name FL hle (freeName gt (P.eq_str (wpAny_truthy_bool ?_)) ht hk ht') hk hl')))
    split
    · rename_i q; exact ⟨by simp [pass3, q], _, rfl⟩
    · rename_i q
      have q' : (x.cps.toList == tag.cps.toList) = false := Bool.eq_false_iff.mpr q
      refine wpAny_allTrue_Or_cons (wpAny_isTrue_BoolOp (wpAny_allTrue_And_cons (testIs (whole := whole) hk hl' hi' hs' ha hb gi gs (.inr ⟨x, u, rfl, h0, h1⟩) FL hle fun tk => ?_)))
      refine wpAny_allTrue_And_cons (wpAny_isTrue_Compare1 (Subscript_ (Loc.name FL hle (freeName go (cutBy gl h1 fun t' tk' => freeName gn (P.eq_str (wpAny_truthy_bool ?_)) hn hk hn') ho hk ho') hk hl')))
      split
      · rename_i r; exact wpAny_allTrue_And_nil ⟨by simp only [pass3, q', Bool.false_or]; exact r.symm, _, rfl⟩
      · rename_i r; exact wpAny_allTrue_Or_nil ⟨by simp only [pass3, q', Bool.false_or]; exact (Bool.eq_false_iff.mpr r).symm, _, rfl⟩
end
end Mine
end
section
open PySem PySem.W PyProof.Rows PySem.Calls PySem.Builtin PySem.Builtin.Str
set_option maxHeartbeats 1000000
namespace Mine
variable [Bs]
theorem lenS {w : World} {A : Around} {E : Value → Shared → Prop} {s : Shared} {env : Env} {mg mb : Str → Option Value} {e : Expr} {p pos : Pos} {Q : Value → Shared → Prop} (G : Gd w mg mb s.heap)
    (h : wpAny (model PG w) A (eval e env) (fun v s₁ => ∃ x t, v = .str x t ∧ x.length < 1000 ∧ ∀ t tk, Q (.int x.length t) { s₁ with toks := tk }) E s)
    (hk : env.scope.kind = .function := by rfl) (hl : env.kindOf (Str.ofString "len") = some .globalImplicit := by rfl) (hg : env.globals = mainGlobals := by rfl) (hb : env.builtins = builtinsNs := by rfl)
    (he : starEach [e] env = [(false, eval e env)] := by rfl) (hc : eval (.Call (.Name (Str.ofString "len") p) [e] [] pos) env = (do callWith pos (← eval (.Name (Str.ofString "len") p) env) [] (backTo pos (starEach [e] env)) (backToKw pos (keywordEach [] env))) := by rfl) :
    wpAny (model PG w) A (eval (.Call (.Name (Str.ofString "len") p) [e] [] pos) env) Q E s := by
  refine Call_ (Gd.built G (by kernel_rfl) boot_len' (callWith_builtin1 (args_cons (wpAny_mono h (fun v s₁ h₁ => ?_) fun _ _ x => x) he) he) (by decide) hk hl hg hb) hc
  obtain ⟨x, t, rfl, hlen, hq⟩ := h₁
  exact args_nil (PyProof.Rows.len_str (by omega) (hq _ _))
section
variable {w : World} {A : Around} {E : Value → Shared → Prop} {s : Shared} {env : Env}
theorem partLit {i : Int} {k : Nat} {pos : Pos} {Q : Value → Shared → Prop} (h : ∀ t tk, Q (partValue (some (i, t))) { s with toks := tk }) : wpAny (model PG w) A (evalPart (some (.Constant (.int i) k pos)) env) Q E s := by
  rw [evalPart_some]; exact wpAny_Constant_int (h _ _)
theorem partNo {Q : Value → Shared → Prop} (h : Q (partValue none) s) : wpAny (model PG w) A (evalPart none env) Q E s := wpAny_pure h
theorem partNeg {i : Int} {k : Nat} {pos p' : Pos} {Q : Value → Shared → Prop} (h : ∀ t tk, Q (partValue (some (-i, t))) { s with toks := tk }) : wpAny (model PG w) A (evalPart (some (.UnaryOp .USub (.Constant (.int i) k pos) p')) env) Q E s := by
  rw [evalPart_some]; exact wpAny_UnaryOp (wpAny_Constant_int (P.neg_int (h _ _)))
end
theorem prep2 {w : World} {mg mb : Str → Option Value} {A : Around} {s : Shared} {g : Str} {t : Tok} (G : Gd w mg mb s.heap) (R : Rm A 3) (hs : 114 < s.heap.objs.size) (T : Tab s.heap 27 23 selQ) (hlen : g.length < 1000) (h1 : (g.cps.toList == (Str.ofString "{*}*").cps.toList) = false) (h2 : (g.cps.toList == (Str.ofString "{}*").cps.toList) = true) :
    codeAny (model PG w) A (.call (.ref 28) ⟨[.str g t], []⟩) (PrepPost w A pass2 s) s := by
  refine call_cells_ret R.d (G.k 28 _ rfl) rfl G.lim (codeRec_of G.k rfl) rfl ?_ (fun h₁ tk F C => ?_)
  · intro x hx; rw [List.mem_singleton.mp hx]; exact .inr ⟨rfl, rfl⟩
  refine hide fun Q0 hQ0 => ?_
  have FL : Loc h₁ s.heap.objs.size [] := F.ns
  have ap := C.apart
  have C1 := C.above
  have CE : Ce h₁ (cellsFrom (s.heap.objs.size + 1) _ []) [(Str.ofString "tag", .str g t)] := fun n c e => by
    have q := C.cell n c e
    change h₁.IsCell c (if n = Str.ofString "tag" then some (.str g t) else none) at q
    rw [look1] at q; exact q
  have E₁ : Ext Non s.heap h₁ := Ext.of F.keep _
  have G₁ : Gd w mg mb h₁ := G.ext E₁ fun _ q => q.elim
  clear F C
  refine wpAny_execs_cons (Assign_Tuple (Tuple_ (args_cons (Gd.built G₁ (nsIn_isinstance _) boot_isinstance' (args_cons (Gd.built G₁ (nsIn_str _) boot_str' (args_nil (wpAny_newObj_type (assign_Tuple_tuple (items := #[.builtin "isinstance", .type "str"]) R.handled ⟨_, Heap.get?_push_size _ rfl, rfl, _, rfl⟩ rfl rfl fun h₂ x₂ => ?_)))))))))
  have X₂ : Ext Non h₁ h₂ := Ext.of (fun b o e => x₂ b o (by rw [Heap.size_push]; exact Nat.ne_of_lt (Nat.lt_succ_of_lt (Heap.lt_size e))) (Heap.get?_push_of_some _ e)) _
  clear x₂
  have FL₂ := Loc.ext FL X₂ id
  have CE₂ := CE.ext X₂ fun _ _ _ q => q
  refine assignInOrder_cons (assign_Name (Ce.store CE₂ ap fun h₃ CE₃ x₃ => assignInOrder_cons (assign_Name (Ce.store CE₃ ap fun h₄ CE₄ x₄ => assignInOrder_nil ?_))))
  have hc : ∀ {n c}, (cellsFrom (s.heap.objs.size + 1) _ []).lookup n = some c → s.heap.objs.size < c := fun e => C1 _ _ (mem_of_lookup e)
  have c1 := hc (n := Str.ofString "_isinstance") rfl
  have c2 := hc (n := Str.ofString "_str") rfl
  have FL₃ := Loc.ext FL₂ x₃ (Nat.ne_of_lt c1)
  have FL₄ := Loc.ext FL₃ x₄ (Nat.ne_of_lt c2)
  have e₄ : Ext Non s.heap h₄ := ((E₁.non X₂).st x₃ (Nat.le_of_lt c1)).st x₄ (Nat.le_of_lt c2)
  have G₄ : Gd w mg mb h₄ := G.ext e₄ fun _ q => q.elim
  clear x₃ x₄ FL₃ CE₃ CE₂ FL₂ X₂ CE G₁ E₁ FL
  refine wpAny_execs_cons (wpAny_If (wpAny_isTrue_Compare1 (Ce.name (s := { s with heap := h₄, toks := _ }) CE₄ rfl (Constant_str (P.eq_str (wpAny_truthy_bool ?_))))))
  rw [if_neg (by rw [h1]; decide)]
  refine wpAny_execs_cons (wpAny_If (wpAny_isTrue_Compare1 (Ce.name (s := { s with heap := h₄, toks := _ }) CE₄ rfl (Constant_str (P.eq_str (wpAny_truthy_bool ?_))))))
  rw [if_pos h2]
  have hsz₄ : s.heap.objs.size < h₄.objs.size := FL₄.lt
  refine wpAny_execs_cons (Def_ (mkFn (s := { s with heap := h₄, toks := _ }) (c := 27) (P := 23) (q := selQ) G₄ rfl (T.non e₄ (by decide) (by decide)) (Nat.lt_trans hs hsz₄) rfl (fun b e => by cases e; rfl) fun f c' h₅ tk₅ ct pm hf hf' x₅ T₅ hc' rec fo => ?_))
  have nP : ∀ b, 114 < b → ¬ (b = 23) := fun b q z => by rw [z] at q; exact absurd q (by decide)
  have FL₅ := Loc.ext FL₄ x₅ (nP _ hs)
  have CE₅ := CE₄.ext x₅ fun n c e => nP _ (Nat.lt_trans hs (C1 _ _ (mem_of_lookup e)))
  refine Loc.store FL₅ fun h₆ FL₆ x₆ => wpAny_execs_nil (wpAny_execs_nil ?_)
  have e₆ : Ext (At 23) s.heap h₆ := ((e₄.mono fun _ q => q.elim).trans x₅).st x₆ (Nat.le_refl _)
  have T₆ := T₅.ext x₆ (by decide) (by decide) fun b q => .inr ⟨by rw [show b = s.heap.objs.size from q]; exact hs, by rw [show b = s.heap.objs.size from q]; exact .ns FL₅⟩
  have CE₆ := CE₅.ext x₆ fun n c e => fun q => absurd (C1 _ _ (mem_of_lookup e)) (by rw [show c = s.heap.objs.size from q]; exact Nat.lt_irrefl _)
  have fo₆ := x₆.get fo (fun q => by rw [show f = s.heap.objs.size from q] at hf; exact absurd hsz₄ (Nat.not_lt.mpr hf)) (.inr fun _ _ z => nomatch z)
  have rec₆ := codeExt rec x₆ fun q => codeNC rec (by rw [show c' = s.heap.objs.size from q]; exact .ns FL₅)
  have G₆ : Gd w mg mb h₆ := G.ext e₆ fun b q => .inr (.inl q)
  refine wpAny_execs_cons (wpAny_Return_some (Loc.name FL₆ rfl (hQ0 _ _ ⟨h₆, _, f, rfl, rfl, e₆, T₆, ⟨_, _, fo₆, rfl⟩, fun lo hi ra rt tk' hhi hra hrow hel => ?_⟩)))
  have U : ∀ Fr N', h₆.objs.size ≤ Fr → Fr < N' → Lean_ w Fr lo hi ra s.heap.objs.size N' rt (GG w mg mb lo hi ra rt (cellsFrom (s.heap.objs.size + 1) _ []) [(Str.ofString "_str", .type "str"), (Str.ofString "_isinstance", .builtin "isinstance"), (Str.ofString "tag", .str g t)] []) := fun Fr N' a b => ggLean hs hhi hra (Nat.le_trans (Nat.le_of_lt FL₆.lt) a) b (fun n c e => ⟨Nat.le_of_lt (C1 _ _ (mem_of_lookup e)), Nat.lt_of_lt_of_le (CE₆ n c e).lt a⟩) (fun _ _ m => nomatch m)
  exact selMake (N := s.heap.objs.size) (GG := GG w mg mb lo hi ra rt (cellsFrom (s.heap.objs.size + 1) _ []) [(Str.ofString "_str", .type "str"), (Str.ofString "_isinstance", .builtin "isinstance"), (Str.ofString "tag", .str g t)] []) R.handled R.d G₆.lim hs (Nat.le_of_lt FL₆.lt) fo₆ rfl rfl rec₆ rfl rfl rfl rfl rfl rfl rfl rfl U
    (fun Fr hFr => turnB (lo := lo) (hi := hi) rfl rfl rfl (fun h h' gg x => (U Fr (Fr + 1) hFr (Nat.lt_succ_self _)).g2 h h' gg (x.mono fun _ q => .inl q)) (fun h g => g.2.2.1) (fun v t m => (hel v t m).2) fun v t m A' s' l gg FL hle => test2 rfl rfl rfl rfl rfl rfl (gg.2.2.2.1 (Str.ofString "_isinstance") _ rfl) (gg.2.2.2.1 (Str.ofString "_str") _ rfl) (hel v t m).2 FL hle) ⟨G₆, hrow, fun v t m => (hel v t m).1, CE₆, fun _ _ m => nomatch m⟩
theorem prep3 {w : World} {mg mb : Str → Option Value} {A : Around} {s : Shared} {g : Str} {t : Tok} (G : Gd w mg mb s.heap) (R : Rm A 3) (hs : 114 < s.heap.objs.size) (T : Tab s.heap 27 23 selQ) (hlen : g.length < 1000) (h1 : (g.cps.toList == (Str.ofString "{*}*").cps.toList) = false) (h2 : (g.cps.toList == (Str.ofString "{}*").cps.toList) = false) (h3 : ((Txt.slice g none (some 3)).cps.toList == (Str.ofString "{*}").cps.toList) = true) :
    codeAny (model PG w) A (.call (.ref 28) ⟨[.str g t], []⟩) (PrepPost w A (pass3 (Txt.slice g (some 3) none) (Txt.slice g (some 2) none)) s) s := by
  refine call_cells_ret R.d (G.k 28 _ rfl) rfl G.lim (codeRec_of G.k rfl) rfl ?_ (fun h₁ tk F C => ?_)
  · intro x hx; rw [List.mem_singleton.mp hx]; exact .inr ⟨rfl, rfl⟩
  refine hide fun Q0 hQ0 => ?_
  have FL : Loc h₁ s.heap.objs.size [] := F.ns
  have ap := C.apart
  have C1 := C.above
  have CE : Ce h₁ (cellsFrom (s.heap.objs.size + 1) _ []) [(Str.ofString "tag", .str g t)] := fun n c e => by
    have q := C.cell n c e
    change h₁.IsCell c (if n = Str.ofString "tag" then some (.str g t) else none) at q
    rw [look1] at q; exact q
  have E₁ : Ext Non s.heap h₁ := Ext.of F.keep _
  have G₁ : Gd w mg mb h₁ := G.ext E₁ fun _ q => q.elim
  clear F C
  refine wpAny_execs_cons (Assign_Tuple (Tuple_ (args_cons (Gd.built G₁ (nsIn_isinstance _) boot_isinstance' (args_cons (Gd.built G₁ (nsIn_str _) boot_str' (args_nil (wpAny_newObj_type (assign_Tuple_tuple (items := #[.builtin "isinstance", .type "str"]) R.handled ⟨_, Heap.get?_push_size _ rfl, rfl, _, rfl⟩ rfl rfl fun h₂ x₂ => ?_)))))))))
  have X₂ : Ext Non h₁ h₂ := Ext.of (fun b o e => x₂ b o (by rw [Heap.size_push]; exact Nat.ne_of_lt (Nat.lt_succ_of_lt (Heap.lt_size e))) (Heap.get?_push_of_some _ e)) _
  clear x₂
  have FL₂ := Loc.ext FL X₂ id
  have CE₂ := CE.ext X₂ fun _ _ _ q => q
  refine assignInOrder_cons (assign_Name (Ce.store CE₂ ap fun h₃ CE₃ x₃ => assignInOrder_cons (assign_Name (Ce.store CE₃ ap fun h₄ CE₄ x₄ => assignInOrder_nil ?_))))
  have hc : ∀ {n c}, (cellsFrom (s.heap.objs.size + 1) _ []).lookup n = some c → s.heap.objs.size < c := fun e => C1 _ _ (mem_of_lookup e)
  have c1 := hc (n := Str.ofString "_isinstance") rfl
  have c2 := hc (n := Str.ofString "_str") rfl
  have FL₃ := Loc.ext FL₂ x₃ (Nat.ne_of_lt c1)
  have FL₄ := Loc.ext FL₃ x₄ (Nat.ne_of_lt c2)
  have e₄ : Ext Non s.heap h₄ := ((E₁.non X₂).st x₃ (Nat.le_of_lt c1)).st x₄ (Nat.le_of_lt c2)
  have G₄ : Gd w mg mb h₄ := G.ext e₄ fun _ q => q.elim
  clear x₃ x₄ FL₃ CE₃ CE₂ FL₂ X₂ CE G₁ E₁ FL
  refine wpAny_execs_cons (wpAny_If (wpAny_isTrue_Compare1 (Ce.name (s := { s with heap := h₄, toks := _ }) CE₄ rfl (Constant_str (P.eq_str (wpAny_truthy_bool ?_))))))
  rw [if_neg (by rw [h1]; decide)]
  refine wpAny_execs_cons (wpAny_If (wpAny_isTrue_Compare1 (Ce.name (s := { s with heap := h₄, toks := _ }) CE₄ rfl (Constant_str (P.eq_str (wpAny_truthy_bool ?_))))))
  rw [if_neg (by rw [h2]; decide)]
  have hsl : g.length ≤ sizeLine := by rw [sizeLine_eq]; omega
  refine wpAny_execs_cons (wpAny_If (wpAny_isTrue_Compare1 (strCut (Ce.name (s := { s with heap := h₄, toks := _ }) CE₄ rfl (partNo (partLit fun ta tka => ⟨g, t, none, some (3, ta), rfl, rfl, rfl, hsl, fun h₁ t₁ tk₁ y₁ => Constant_str (P.eq_str (wpAny_truthy_bool ?_))⟩))))))
  refine (if_pos (c := ((Txt.slice g ((none : Option (Int × Tok)).map (·.1)) ((some ((3 : Int), ta)).map (·.1))).cps.toList == (Str.ofString "{*}").cps.toList) = true) h3).mpr ?_
  have CEa := CE₄.ext y₁ fun _ _ _ q => q
  have FLa := FL₄.ext y₁ id
  refine wpAny_execs_cons (wpAny_Assign_Name (strCut (Ce.name (s := { s with heap := h₁, toks := _ }) CEa rfl (partLit fun ta tka => (partNo ⟨g, t, some (2, ta), none, rfl, rfl, rfl, hsl, fun h₂ t₂ tk₂ y₂ => Ce.store (CEa.ext y₂ fun _ _ _ q => q) ap fun h₃ CEb y₃ => ?_⟩)))))
  have c3 := hc (n := Str.ofString "suffix") rfl
  have c4 := hc (n := Str.ofString "no_ns") rfl
  have c5 := hc (n := Str.ofString "tag") rfl
  have FLb := (FLa.ext y₂ id).ext y₃ (Nat.ne_of_lt c3)
  have eb : Ext Non s.heap h₃ := ((e₄.non y₁).non y₂).st y₃ (Nat.le_of_lt c3)
  have Gb : Gd w mg mb h₃ := G.ext eb fun _ q => q.elim
  have hsuf : (Txt.slice g (some 2) none).length < 1000 := Nat.lt_of_le_of_lt (Txt.slice_le _ _ _) hlen
  refine wpAny_execs_cons (wpAny_Assign_Name (slice_ (s := { s with heap := h₃, toks := _ }) Gb (wpAny_UnaryOp (lenS (s := { s with heap := h₃, toks := _ }) Gb (Ce.name CEb rfl ⟨Txt.slice g (some 2) none, t₂, rfl, hsuf, fun t₃ tk₃ => P.neg_int (Constant_none ?_)⟩)))))
  generalize hHS : h₃.push { cls := .type "slice", data := .fields #[.int (-((Txt.slice g (some 2) none).length : Int)) tk₃, .none, .none] } = hS
  have yS : Ext Non h₃ hS := by rw [← hHS]; exact Ext.push _ _ _
  have slS : hS.get? h₃.objs.size = some { cls := .type "slice", data := .fields #[.int (-((Txt.slice g (some 2) none).length : Int)) tk₃, .none, .none] } := by rw [← hHS]; exact Heap.get?_push_size _ rfl
  have CES := CEb.ext yS fun _ _ _ q => q
  refine Ce.store CES ap fun h₆ CEc y₆ => ?_
  have FLc := (FLb.ext yS id).ext y₆ (Nat.ne_of_lt c4)
  have ec : Ext Non s.heap h₆ := (eb.non yS).st y₆ (Nat.le_of_lt c4)
  have slc := y₆.get slS (fun q => by
    have := (CES (Str.ofString "no_ns") _ rfl)
    obtain ⟨o, ho, hd⟩ := this
    rw [← show h₃.objs.size = _ from q, slS] at ho; cases ho; cases hd) (.inr fun _ _ z => nomatch z)
  refine wpAny_execs_cons (wpAny_Assign_Name (strCut (Ce.name (s := { s with heap := h₆, toks := _ }) CEc rfl (partLit fun tb tkb => (partNo ⟨g, t, some (3, tb), none, rfl, rfl, rfl, hsl, fun h₇ t₇ tk₇ y₇ => Ce.store (CEc.ext y₇ fun _ _ _ q => q) ap fun h₈ CEd y₈ => ?_⟩)))))
  have FLd := (FLc.ext y₇ id).ext y₈ (Nat.ne_of_lt c5)
  have ed : Ext Non s.heap h₈ := (ec.non y₇).st y₈ (Nat.le_of_lt c5)
  have Gd' : Gd w mg mb h₈ := G.ext ed fun _ q => q.elim
  have sld := y₈.get (y₇.get slc id (.inr fun _ _ z => nomatch z)) (fun q => by
    have := (CEc.ext y₇ fun _ _ _ q => q) (Str.ofString "tag") _ rfl
    obtain ⟨o, ho, hd⟩ := this
    rw [← show h₃.objs.size = _ from q, y₇.get slc id (.inr fun _ _ z => nomatch z)] at ho; cases ho; cases hd) (.inr fun _ _ z => nomatch z)
  have hsa : s.heap.objs.size < h₃.objs.size := FLb.lt
  clear CE₄ FL₄ e₄ G₄ CEa FLa CEb FLb CEc FLc slc CES y₁ y₂ y₃ yS y₆ y₇ y₈ slS hHS eb ec Gb
  have hszd : s.heap.objs.size < h₈.objs.size := FLd.lt
  refine wpAny_execs_cons (Def_ (mkFn (s := { s with heap := h₈, toks := _ }) (c := 27) (P := 23) (q := selQ) Gd' rfl (T.non ed (by decide) (by decide)) (Nat.lt_trans hs hszd) rfl (fun b e => by cases e; rfl) fun f c' h₅ tk₅ ct pm hf hf' x₅ T₅ hc' rec fo => ?_))
  have nP : ∀ b, 114 < b → ¬ (b = 23) := fun b q z => by rw [z] at q; exact absurd q (by decide)
  have FL₅ := Loc.ext FLd x₅ (nP _ hs)
  have CE₅ := CEd.ext x₅ fun n c e => nP _ (Nat.lt_trans hs (C1 _ _ (mem_of_lookup e)))
  refine Loc.store FL₅ fun h₆ FL₆ x₆ => wpAny_execs_nil (wpAny_execs_nil (wpAny_execs_nil ?_))
  have e₆ : Ext (At 23) s.heap h₆ := ((ed.mono fun _ q => q.elim).trans x₅).st x₆ (Nat.le_refl _)
  have T₆ := T₅.ext x₆ (by decide) (by decide) fun b q => .inr ⟨by rw [show b = s.heap.objs.size from q]; exact hs, by rw [show b = s.heap.objs.size from q]; exact .ns FL₅⟩
  have CE₆ := CE₅.ext x₆ fun n c e => fun q => absurd (C1 _ _ (mem_of_lookup e)) (by rw [show c = s.heap.objs.size from q]; exact Nat.lt_irrefl _)
  have fo₆ := x₆.get fo (fun q => by rw [show f = s.heap.objs.size from q] at hf; exact absurd hszd (Nat.not_lt.mpr hf)) (.inr fun _ _ z => nomatch z)
  have rec₆ := codeExt rec x₆ fun q => codeNC rec (by rw [show c' = s.heap.objs.size from q]; exact .ns FL₅)
  have G₆ : Gd w mg mb h₆ := G.ext e₆ fun b q => .inr (.inl q)
  have sl₆ := x₆.get (x₅.get sld (nP _ (Nat.lt_trans hs hsa)) (.inr fun _ _ z => nomatch z)) (Ne.symm (Nat.ne_of_lt hsa)) (.inr fun _ _ z => nomatch z)
  refine wpAny_execs_cons (wpAny_Return_some (Loc.name FL₆ rfl (hQ0 _ _ ⟨h₆, _, f, rfl, rfl, e₆, T₆, ⟨_, _, fo₆, rfl⟩, fun lo hi ra rt tk' hhi hra hrow hel => ?_⟩)))
  have U : ∀ Fr N', h₆.objs.size ≤ Fr → Fr < N' → Lean_ w Fr lo hi ra s.heap.objs.size N' rt (GG w mg mb lo hi ra rt (cellsFrom (s.heap.objs.size + 1) _ []) [(Str.ofString "tag", .str (Txt.slice g (some 3) none) t₇), (Str.ofString "no_ns", .ref h₃.objs.size), (Str.ofString "suffix", .str (Txt.slice g (some 2) none) t₂), (Str.ofString "_str", .type "str"), (Str.ofString "_isinstance", .builtin "isinstance"), (Str.ofString "tag", .str g t)] [(h₃.objs.size, { cls := .type "slice", data := .fields #[.int (-((Txt.slice g (some 2) none).length : Int)) tk₃, .none, .none] })]) := fun Fr N' ha b => ggLean hs hhi hra (Nat.le_trans (Nat.le_of_lt FL₆.lt) ha) b (fun n c e => ⟨Nat.le_of_lt (C1 _ _ (mem_of_lookup e)), Nat.lt_of_lt_of_le (CE₆ n c e).lt ha⟩) (fun a o m => by
    cases List.mem_singleton.mp m
    exact ⟨Nat.le_of_lt hsa, Nat.lt_of_lt_of_le (Heap.lt_size sl₆) ha, (by show ¬ (Value.type "slice" = Value.type "list_iterator"); decide), fun _ _ z => nomatch z⟩)
  exact selMake (N := s.heap.objs.size) (GG := GG w mg mb lo hi ra rt (cellsFrom (s.heap.objs.size + 1) _ []) [(Str.ofString "tag", .str (Txt.slice g (some 3) none) t₇), (Str.ofString "no_ns", .ref h₃.objs.size), (Str.ofString "suffix", .str (Txt.slice g (some 2) none) t₂), (Str.ofString "_str", .type "str"), (Str.ofString "_isinstance", .builtin "isinstance"), (Str.ofString "tag", .str g t)] [(h₃.objs.size, { cls := .type "slice", data := .fields #[.int (-((Txt.slice g (some 2) none).length : Int)) tk₃, .none, .none] })]) R.handled R.d G₆.lim hs (Nat.le_of_lt FL₆.lt) fo₆ rfl rfl rec₆ rfl rfl rfl rfl rfl rfl rfl rfl U
    (fun Fr hFr => turnB (lo := lo) (hi := hi) rfl rfl rfl (fun h h' gg x => (U Fr (Fr + 1) hFr (Nat.lt_succ_self _)).g2 h h' gg (x.mono fun _ q => .inl q)) (fun h g => g.2.2.1) (fun v t m => (hel v t m).2) fun v t m A' s' l gg FL hle => test3 rfl rfl rfl rfl rfl rfl rfl rfl rfl rfl rfl rfl (gg.2.2.2.1 (Str.ofString "suffix") _ rfl) (gg.2.2.2.1 (Str.ofString "no_ns") _ rfl) (gg.2.2.2.1 (Str.ofString "tag") _ rfl) ⟨_, gg.2.2.2.2 _ _ (List.mem_singleton.mpr rfl), rfl, rfl⟩ (gg.2.2.2.1 (Str.ofString "_isinstance") _ rfl) (gg.2.2.2.1 (Str.ofString "_str") _ rfl) (hel v t m).2 FL hle) ⟨G₆, hrow, fun v t m => (hel v t m).1, CE₆, fun a o m => by cases List.mem_singleton.mp m; exact sl₆⟩
theorem prep4 {w : World} {mg mb : Str → Option Value} {A : Around} {s : Shared} {g : Str} {t : Tok} (G : Gd w mg mb s.heap) (R : Rm A 3) (hs : 114 < s.heap.objs.size) (T : Tab s.heap 27 23 selQ) (hlen : g.length < 1000) (h1 : (g.cps.toList == (Str.ofString "{*}*").cps.toList) = false) (h2 : (g.cps.toList == (Str.ofString "{}*").cps.toList) = false) (h3 : ((Txt.slice g none (some 3)).cps.toList == (Str.ofString "{*}").cps.toList) = false) (h4 : ((Txt.slice g (some (-2)) none).cps.toList == (Str.ofString "}*").cps.toList) = true) :
    codeAny (model PG w) A (.call (.ref 28) ⟨[.str g t], []⟩) (PrepPost w A (pass4 (Txt.slice g none (some (-1)))) s) s := by
  refine call_cells_ret R.d (G.k 28 _ rfl) rfl G.lim (codeRec_of G.k rfl) rfl ?_ (fun h₁ tk F C => ?_)
  · intro x hx; rw [List.mem_singleton.mp hx]; exact .inr ⟨rfl, rfl⟩
  refine hide fun Q0 hQ0 => ?_
  have FL : Loc h₁ s.heap.objs.size [] := F.ns
  have ap := C.apart
  have C1 := C.above
  have CE : Ce h₁ (cellsFrom (s.heap.objs.size + 1) _ []) [(Str.ofString "tag", .str g t)] := fun n c e => by
    have q := C.cell n c e
    change h₁.IsCell c (if n = Str.ofString "tag" then some (.str g t) else none) at q
    rw [look1] at q; exact q
  have E₁ : Ext Non s.heap h₁ := Ext.of F.keep _
  have G₁ : Gd w mg mb h₁ := G.ext E₁ fun _ q => q.elim
  clear F C
  refine wpAny_execs_cons (Assign_Tuple (Tuple_ (args_cons (Gd.built G₁ (nsIn_isinstance _) boot_isinstance' (args_cons (Gd.built G₁ (nsIn_str _) boot_str' (args_nil (wpAny_newObj_type (assign_Tuple_tuple (items := #[.builtin "isinstance", .type "str"]) R.handled ⟨_, Heap.get?_push_size _ rfl, rfl, _, rfl⟩ rfl rfl fun h₂ x₂ => ?_)))))))))
  have X₂ : Ext Non h₁ h₂ := Ext.of (fun b o e => x₂ b o (by rw [Heap.size_push]; exact Nat.ne_of_lt (Nat.lt_succ_of_lt (Heap.lt_size e))) (Heap.get?_push_of_some _ e)) _
  clear x₂
  have FL₂ := Loc.ext FL X₂ id
  have CE₂ := CE.ext X₂ fun _ _ _ q => q
  refine assignInOrder_cons (assign_Name (Ce.store CE₂ ap fun h₃ CE₃ x₃ => assignInOrder_cons (assign_Name (Ce.store CE₃ ap fun h₄ CE₄ x₄ => assignInOrder_nil ?_))))
  have hc : ∀ {n c}, (cellsFrom (s.heap.objs.size + 1) _ []).lookup n = some c → s.heap.objs.size < c := fun e => C1 _ _ (mem_of_lookup e)
  have c1 := hc (n := Str.ofString "_isinstance") rfl
  have c2 := hc (n := Str.ofString "_str") rfl
  have FL₃ := Loc.ext FL₂ x₃ (Nat.ne_of_lt c1)
  have FL₄ := Loc.ext FL₃ x₄ (Nat.ne_of_lt c2)
  have e₄ : Ext Non s.heap h₄ := ((E₁.non X₂).st x₃ (Nat.le_of_lt c1)).st x₄ (Nat.le_of_lt c2)
  have G₄ : Gd w mg mb h₄ := G.ext e₄ fun _ q => q.elim
  clear x₃ x₄ FL₃ CE₃ CE₂ FL₂ X₂ CE G₁ E₁ FL
  refine wpAny_execs_cons (wpAny_If (wpAny_isTrue_Compare1 (Ce.name (s := { s with heap := h₄, toks := _ }) CE₄ rfl (Constant_str (P.eq_str (wpAny_truthy_bool ?_))))))
  rw [if_neg (by rw [h1]; decide)]
  refine wpAny_execs_cons (wpAny_If (wpAny_isTrue_Compare1 (Ce.name (s := { s with heap := h₄, toks := _ }) CE₄ rfl (Constant_str (P.eq_str (wpAny_truthy_bool ?_))))))
  rw [if_neg (by rw [h2]; decide)]
  have hsl : g.length ≤ sizeLine := by rw [sizeLine_eq]; omega
  refine wpAny_execs_cons (wpAny_If (wpAny_isTrue_Compare1 (strCut (Ce.name (s := { s with heap := h₄, toks := _ }) CE₄ rfl (partNo (partLit fun ta tka => ⟨g, t, none, some (3, ta), rfl, rfl, rfl, hsl, fun h₁ t₁ tk₁ y₁ => Constant_str (P.eq_str (wpAny_truthy_bool ?_))⟩))))))
  refine (if_neg (c := ((Txt.slice g ((none : Option (Int × Tok)).map (·.1)) ((some ((3 : Int), ta)).map (·.1))).cps.toList == (Str.ofString "{*}").cps.toList) = true) (by show ¬ (((Txt.slice g none (some 3)).cps.toList == (Str.ofString "{*}").cps.toList) = true); rw [h3]; decide)).mpr ?_
  have CEz := CE₄.ext y₁ fun _ _ _ q => q
  have FLz := FL₄.ext y₁ id
  refine wpAny_execs_cons (wpAny_If (wpAny_isTrue_Compare1 (strCut (Ce.name (s := { s with heap := h₁, toks := _ }) CEz rfl (partNeg fun tz tkz => (partNo ⟨g, t, some (-2, tz), none, rfl, rfl, rfl, hsl, fun hz t₉ tk₉ yz => Constant_str (P.eq_str (wpAny_truthy_bool ?_))⟩))))))
  refine (if_pos (c := ((Txt.slice g ((some ((-2 : Int), tz)).map (·.1)) ((none : Option (Int × Tok)).map (·.1))).cps.toList == (Str.ofString "}*").cps.toList) = true) h4).mpr ?_
  have CEa := CEz.ext yz fun _ _ _ q => q
  have FLa := FLz.ext yz id
  refine wpAny_execs_cons (wpAny_Assign_Name (strCut (Ce.name (s := { s with heap := hz, toks := _ }) CEa rfl (partNo (partNeg fun tb tkb => ⟨g, t, none, some (-1, tb), rfl, rfl, rfl, hsl, fun h₂ t₂ tk₂ y₂ => Ce.store (CEa.ext y₂ fun _ _ _ q => q) ap fun h₃ CEb y₃ => ?_⟩)))))
  have c3 := hc (n := Str.ofString "ns") rfl
  have c4 := hc (n := Str.ofString "ns_only") rfl
  have FLb := (FLa.ext y₂ id).ext y₃ (Nat.ne_of_lt c3)
  have eb : Ext Non s.heap h₃ := (((e₄.non y₁).non yz).non y₂).st y₃ (Nat.le_of_lt c3)
  have Gb : Gd w mg mb h₃ := G.ext eb fun _ q => q.elim
  have hsuf : (Txt.slice g none (some (-1))).length < 1000 := Nat.lt_of_le_of_lt (Txt.slice_le _ _ _) hlen
  refine wpAny_execs_cons (wpAny_Assign_Name (slice_ (s := { s with heap := h₃, toks := _ }) Gb (Constant_none (lenS (s := { s with heap := h₃, toks := _ }) Gb (Ce.name CEb rfl ⟨Txt.slice g none (some (-1)), t₂, rfl, hsuf, fun t₃ tk₃ => ?_⟩)))))
  generalize hHS : h₃.push { cls := .type "slice", data := .fields #[.none, .int ((Txt.slice g none (some (-1))).length : Int) t₃, .none] } = hS
  have yS : Ext Non h₃ hS := by rw [← hHS]; exact Ext.push _ _ _
  have slS : hS.get? h₃.objs.size = some { cls := .type "slice", data := .fields #[.none, .int ((Txt.slice g none (some (-1))).length : Int) t₃, .none] } := by rw [← hHS]; exact Heap.get?_push_size _ rfl
  have CES := CEb.ext yS fun _ _ _ q => q
  refine Ce.store CES ap fun h₈ CEd y₆ => ?_
  have FLd := (FLb.ext yS id).ext y₆ (Nat.ne_of_lt c4)
  have ed : Ext Non s.heap h₈ := (eb.non yS).st y₆ (Nat.le_of_lt c4)
  have Gd' : Gd w mg mb h₈ := G.ext ed fun _ q => q.elim
  have sld := y₆.get slS (fun q => by
    have := (CES (Str.ofString "ns_only") _ rfl)
    obtain ⟨o, ho, hd⟩ := this
    rw [← show h₃.objs.size = _ from q, slS] at ho; cases ho; cases hd) (.inr fun _ _ z => nomatch z)
  have hsa : s.heap.objs.size < h₃.objs.size := FLb.lt
  clear CE₄ FL₄ e₄ G₄ CEa FLa CEb FLb CEz FLz CES y₁ yz y₂ y₃ yS y₆ slS hHS eb Gb
  have hszd : s.heap.objs.size < h₈.objs.size := FLd.lt
  refine wpAny_execs_cons (Def_ (mkFn (s := { s with heap := h₈, toks := _ }) (c := 27) (P := 23) (q := selQ) Gd' rfl (T.non ed (by decide) (by decide)) (Nat.lt_trans hs hszd) rfl (fun b e => by cases e; rfl) fun f c' h₅ tk₅ ct pm hf hf' x₅ T₅ hc' rec fo => ?_))
  have nP : ∀ b, 114 < b → ¬ (b = 23) := fun b q z => by rw [z] at q; exact absurd q (by decide)
  have FL₅ := Loc.ext FLd x₅ (nP _ hs)
  have CE₅ := CEd.ext x₅ fun n c e => nP _ (Nat.lt_trans hs (C1 _ _ (mem_of_lookup e)))
  refine Loc.store FL₅ fun h₆ FL₆ x₆ => wpAny_execs_nil (wpAny_execs_nil (wpAny_execs_nil (wpAny_execs_nil ?_)))
  have e₆ : Ext (At 23) s.heap h₆ := ((ed.mono fun _ q => q.elim).trans x₅).st x₆ (Nat.le_refl _)
  have T₆ := T₅.ext x₆ (by decide) (by decide) fun b q => .inr ⟨by rw [show b = s.heap.objs.size from q]; exact hs, by rw [show b = s.heap.objs.size from q]; exact .ns FL₅⟩
  have CE₆ := CE₅.ext x₆ fun n c e => fun q => absurd (C1 _ _ (mem_of_lookup e)) (by rw [show c = s.heap.objs.size from q]; exact Nat.lt_irrefl _)
  have fo₆ := x₆.get fo (fun q => by rw [show f = s.heap.objs.size from q] at hf; exact absurd hszd (Nat.not_lt.mpr hf)) (.inr fun _ _ z => nomatch z)
  have rec₆ := codeExt rec x₆ fun q => codeNC rec (by rw [show c' = s.heap.objs.size from q]; exact .ns FL₅)
  have G₆ : Gd w mg mb h₆ := G.ext e₆ fun b q => .inr (.inl q)
  have sl₆ := x₆.get (x₅.get sld (nP _ (Nat.lt_trans hs hsa)) (.inr fun _ _ z => nomatch z)) (Ne.symm (Nat.ne_of_lt hsa)) (.inr fun _ _ z => nomatch z)
  refine wpAny_execs_cons (wpAny_Return_some (Loc.name FL₆ rfl (hQ0 _ _ ⟨h₆, _, f, rfl, rfl, e₆, T₆, ⟨_, _, fo₆, rfl⟩, fun lo hi ra rt tk' hhi hra hrow hel => ?_⟩)))
  have U : ∀ Fr N', h₆.objs.size ≤ Fr → Fr < N' → Lean_ w Fr lo hi ra s.heap.objs.size N' rt (GG w mg mb lo hi ra rt (cellsFrom (s.heap.objs.size + 1) _ []) [(Str.ofString "ns_only", .ref h₃.objs.size), (Str.ofString "ns", .str (Txt.slice g none (some (-1))) t₂), (Str.ofString "_str", .type "str"), (Str.ofString "_isinstance", .builtin "isinstance"), (Str.ofString "tag", .str g t)] [(h₃.objs.size, { cls := .type "slice", data := .fields #[.none, .int ((Txt.slice g none (some (-1))).length : Int) t₃, .none] })]) := fun Fr N' ha b => ggLean hs hhi hra (Nat.le_trans (Nat.le_of_lt FL₆.lt) ha) b (fun n c e => ⟨Nat.le_of_lt (C1 _ _ (mem_of_lookup e)), Nat.lt_of_lt_of_le (CE₆ n c e).lt ha⟩) (fun a o m => by
    cases List.mem_singleton.mp m
    exact ⟨Nat.le_of_lt hsa, Nat.lt_of_lt_of_le (Heap.lt_size sl₆) ha, (by show ¬ (Value.type "slice" = Value.type "list_iterator"); decide), fun _ _ z => nomatch z⟩)
  exact selMake (N := s.heap.objs.size) (GG := GG w mg mb lo hi ra rt (cellsFrom (s.heap.objs.size + 1) _ []) [(Str.ofString "ns_only", .ref h₃.objs.size), (Str.ofString "ns", .str (Txt.slice g none (some (-1))) t₂), (Str.ofString "_str", .type "str"), (Str.ofString "_isinstance", .builtin "isinstance"), (Str.ofString "tag", .str g t)] [(h₃.objs.size, { cls := .type "slice", data := .fields #[.none, .int ((Txt.slice g none (some (-1))).length : Int) t₃, .none] })]) R.handled R.d G₆.lim hs (Nat.le_of_lt FL₆.lt) fo₆ rfl rfl rec₆ rfl rfl rfl rfl rfl rfl rfl rfl U
    (fun Fr hFr => turnB (lo := lo) (hi := hi) rfl rfl rfl (fun h h' gg x => (U Fr (Fr + 1) hFr (Nat.lt_succ_self _)).g2 h h' gg (x.mono fun _ q => .inl q)) (fun h g => g.2.2.1) (fun v t m => (hel v t m).2) fun v t m A' s' l gg FL hle => test4 rfl rfl rfl rfl rfl rfl rfl rfl rfl rfl (gg.2.2.2.1 (Str.ofString "ns") _ rfl) (gg.2.2.2.1 (Str.ofString "ns_only") _ rfl) ⟨_, gg.2.2.2.2 _ _ (List.mem_singleton.mpr rfl), rfl, rfl⟩ (gg.2.2.2.1 (Str.ofString "_isinstance") _ rfl) (gg.2.2.2.1 (Str.ofString "_str") _ rfl) (hel v t m).2 FL hle) ⟨G₆, hrow, fun v t m => (hel v t m).1, CE₆, fun a o m => by cases List.mem_singleton.mp m; exact sl₆⟩
end Mine
end
section
set_option maxHeartbeats 8000000
open PySem PySem.W PyProof.Rows PySem.Calls PySem.Builtin
namespace Mine
variable [Bs]
/- two rows side by side -/
noncomputable def All2 {α β : Type} (R : α → β → Prop) (xs : List α) (ys : List β) : Prop := xs.length = ys.length ∧ ∀ (i : Nat) x y, xs[i]? = some x → ys[i]? = some y → R x y
theorem All2.nil {α β : Type} {R : α → β → Prop} : All2 R [] [] := ⟨rfl, fun i x y h => by simp at h⟩
theorem All2.cons {α β : Type} {R : α → β → Prop} {x : α} {y : β} {xs : List α} {ys : List β} (h : R x y) (t : All2 R xs ys) : All2 R (x :: xs) (y :: ys) := by
  refine ⟨by simp [t.1], fun i a b ha hb => ?_⟩
  cases i with
  | zero => simp at ha hb; subst ha; subst hb; exact h
  | succ i => simp at ha hb; exact t.2 i a b ha hb
theorem All2.append {α β : Type} {R : α → β → Prop} : ∀ {xs xs' : List α} {ys ys' : List β}, All2 R xs ys → All2 R xs' ys' → All2 R (xs ++ xs') (ys ++ ys')
  | [], xs', [], ys', _, b => b
  | [], _, y :: ys, _, a, _ => by have := a.1; simp at this
  | x :: xs, _, [], _, a, _ => by have := a.1; simp at this
  | x :: xs, xs', y :: ys, ys', a, b => by
    have h1 : R x y := a.2 0 x y rfl rfl
    have h2 : All2 R xs ys := ⟨by have := a.1; simpa using this, fun i p q hp hq => a.2 (i + 1) p q (by simpa using hp) (by simpa using hq)⟩
    exact .cons h1 (All2.append h2 b)
theorem All2.take {α β : Type} {R : α → β → Prop} {xs : List α} {ys : List β} (a : All2 R xs ys) (n : Nat) : All2 R (xs.take n) (ys.take n) := by
  refine ⟨by simp [a.1], fun i x y hx hy => ?_⟩
  rw [List.getElem?_take] at hx hy
  split at hx
  · rename_i q; rw [if_pos q] at hy; exact a.2 i x y hx hy
  · cases hx
theorem All2.drop {α β : Type} {R : α → β → Prop} {xs : List α} {ys : List β} (a : All2 R xs ys) (n : Nat) : All2 R (xs.drop n) (ys.drop n) := by
  refine ⟨by simp [a.1], fun i x y hx hy => ?_⟩
  rw [List.getElem?_drop] at hx hy
  exact a.2 _ x y hx hy
theorem All2.mono {α β : Type} {R S : α → β → Prop} {xs : List α} {ys : List β} (a : All2 R xs ys) (h : ∀ x y, R x y → S x y) : All2 S xs ys := ⟨a.1, fun i x y hx hy => h x y (a.2 i x y hx hy)⟩
theorem All2.at {α β : Type} {R : α → β → Prop} {xs : List α} {ys : List β} (a : All2 R xs ys) {i : Nat} {y : β} (h : ys[i]? = some y) : ∃ x, xs[i]? = some x ∧ R x y := by
  have hi : i < xs.length := by rw [a.1]; exact (List.getElem?_eq_some_iff.mp h).1
  exact ⟨xs[i], List.getElem?_eq_getElem hi, a.2 i _ y (List.getElem?_eq_getElem hi) h⟩
theorem All2.at' {α β : Type} {R : α → β → Prop} {xs : List α} {ys : List β} (a : All2 R xs ys) {i : Nat} {x : α} (h : xs[i]? = some x) : ∃ y, ys[i]? = some y ∧ R x y := by
  have hi : i < ys.length := by rw [← a.1]; exact (List.getElem?_eq_some_iff.mp h).1
  exact ⟨ys[i], List.getElem?_eq_getElem hi, a.2 i x _ h (List.getElem?_eq_getElem hi)⟩
noncomputable def IV (v : Value) (n : Int) : Prop := ∃ t, v = .int n t
noncomputable def SV (v : Value) (x : Str) : Prop := ∃ t, v = .str x t
section
variable {w : World} {A : Around} {E : Value → Shared → Prop} {s : Shared} {env : Env} {mg mb : Str → Option Value}
theorem newL {vs : List Value} {Q : Value → Shared → Prop} (hlen : vs.length < 2 ^ 22) (h : ∀ D h', D = s.heap.objs.size → Ls h' D vs → Ext Non s.heap h' → Q (.ref D) { s with heap := h' }) : wpAny (model PG w) A (newList vs) Q E s :=
  wpAny_newObj_type (h _ _ rfl (Ls.new _ _) (Ext.push _ _ _)) (by show vs.toArray.size ≤ sizeLine; rw [List.size_toArray, sizeLine_eq]; omega)
theorem addL {l b : Addr} {xs ys : List Value} {Q : Value → Shared → Prop} (hl : Ls s.heap l xs) (hb : Ls s.heap b ys) (hlen : xs.length + ys.length < 2 ^ 22)
    (h : ∀ D h', D = s.heap.objs.size → Ls h' D (xs ++ ys) → Ext Non s.heap h' → Q (.ref D) { s with heap := h' }) : wpAny (model PG w) A (binaryOp .Add (.ref l) (.ref b)) Q E s := by
  obtain ⟨n, hl⟩ := hl
  obtain ⟨m, hb⟩ := hb
  refine P.add_list hl hb (h _ _ rfl ?_ (Ext.push _ _ _)) (by rw [List.size_toArray, List.size_toArray, sizeLine_eq]; omega)
  rw [show xs.toArray ++ ys.toArray = (xs ++ ys).toArray by simp]
  exact Ls.new _ _
inductive CutL1 [Bs] (o : Value) (s₃ : Shared) (vl : Value) (vu : Value) (Q : Value → Shared → Prop) : Prop
  | mk (l : Addr) (vs : List Value) (lo hi : Option Int) (e0 : o = .ref l) (e1 : s₃.heap.IsList l vs.toArray) (e2 : vs.length < 2 ^ 22) (e3 : IsPart vl lo) (e4 : IsPart vu hi) (e5 : ∀ D h', s₃.heap.objs.size ≤ D → Ls h' D (slicePick vs.toArray lo hi none).toList → Ext Non s₃.heap h' → Q (.ref D) { s₃ with heap := h' }) : CutL1 o s₃ vl vu Q
theorem cutL {value : Expr} {lower upper : Option Expr} {p pos : Pos} {Q : Value → Shared → Prop}
    (h : wpAny (model PG w) A (eval value env) (fun o s₁ => wpAny (model PG w) A (evalPart lower env) (fun vl s₂ => wpAny (model PG w) A (evalPart upper env) (fun vu s₃ =>
      CutL1 o s₃ vl vu Q) E s₂) E s₁) E s)
    (ht : ∀ o r, letTemporaryGo value o r = pure () := by intro _ _; rfl) : wpAny (model PG w) A (eval (.Subscript value (.Slice lower upper none p) pos) env) Q E s := by
  refine wpAny_Subscript_list_slice (wpAny_mono h (fun o s₁ h₁ => wpAny_mono h₁ (fun vl s₂ h₂ => wpAny_mono h₂ (fun vu s₃ h₃ => ?_) fun _ _ x => x) fun _ _ x => x) fun _ _ x => x) ht
  obtain ⟨l, vs, lo, hi, rfl, hl, hlen, a, b, hq⟩ := h₃
  refine ⟨l, vs.toArray, lo, hi, rfl, hl, by rw [List.size_toArray, sizeLine_eq]; omega, a, b, hq _ _ (Nat.le_succ _) ?_ (Ext.of (fun b o e => Heap.get?_push_of_some _ (Heap.get?_push_of_some _ e)) _)⟩
  refine ⟨0, ?_⟩
  have e : (s₃.heap.push { cls := .type "slice", data := .fields #[vl, vu, .none] }).objs.size = s₃.heap.objs.size + 1 := Heap.size_push ..
  rw [← e]
  exact Heap.get?_push_size _ rfl
theorem boot_list : bootBuiltins (Str.ofString "list") = some (.type "list") := by kernel_rfl
theorem nsIn_list (p : Params) : nsIn (heapK p) mainGlobals (Str.ofString "list") = some none := by kernel_rfl
theorem boot_chr : bootBuiltins (Str.ofString "chr") = some (.builtin "chr") := by kernel_rfl
theorem nsIn_chr (p : Params) : nsIn (heapK p) mainGlobals (Str.ofString "chr") = some none := by kernel_rfl
inductive List1 [Bs] (v : Value) (s₁ : Shared) (Q : Value → Shared → Prop) : Prop
  | mk (l : Addr) (vs : List Value) (e0 : v = .ref l) (e1 : s₁.heap.IsList l vs.toArray) (e2 : vs.length < 2 ^ 22) (e3 : ∀ D h', D = s₁.heap.objs.size → Ls h' D vs → Ext Non s₁.heap h' → Q (.ref D) { s₁ with heap := h' }) : List1 v s₁ Q
theorem list_ {np cpos : Pos} {e : Expr} {Q : Value → Shared → Prop} (G : Gd w mg mb s.heap)
    (h : wpAny (model PG w) A (eval e env) (fun v s₁ => List1 v s₁ Q) E s)
    (hk : env.scope.kind = .function := by rfl) (hl : env.kindOf (Str.ofString "list") = some .globalImplicit := by rfl) (hg : env.globals = mainGlobals := by rfl) (hb : env.builtins = builtinsNs := by rfl)
    (he : starEach [e] env = [(false, eval e env)] := by rfl) : wpAny (model PG w) A (eval (.Call (.Name (Str.ofString "list") np) [e] [] cpos) env) Q E s := by
  refine wpAny_Call_ofName (Gd.built G (nsIn_list _) boot_list ?_ (by decide) hk hl hg hb)
  rw [he]
  refine PyProof.Rows.callWith_type rfl (evalArgs_plain (spliced_cons (wpAny_mono h (fun v s₁ h₁ => spliced_nil ?_) fun _ _ x => x)))
  obtain ⟨l, vs, rfl, ⟨o, ho, hc, n, hd⟩, hlen, hq⟩ := h₁
  exact call_list_seq l (.inl rfl) ho hc hd (fun h' c' hk hD => hq _ h' rfl ⟨c', hD⟩ (Ext.of hk _)) (by rw [List.size_toArray, sizeLine_eq]; omega)
theorem chr_ {e : Expr} {p pos : Pos} {Q : Value → Shared → Prop} (G : Gd w mg mb s.heap)
    (h : wpAny (model PG w) A (eval e env) (fun v s₁ => ∃ t, v = .int 233 t ∧ ∀ t tk, Q (.str ⟨#[233]⟩ t) { s₁ with toks := tk }) E s)
    (hk : env.scope.kind = .function := by rfl) (hl : env.kindOf (Str.ofString "chr") = some .globalImplicit := by rfl) (hg : env.globals = mainGlobals := by rfl) (hb : env.builtins = builtinsNs := by rfl)
    (he : starEach [e] env = [(false, eval e env)] := by rfl) (hc : eval (.Call (.Name (Str.ofString "chr") p) [e] [] pos) env = (do callWith pos (← eval (.Name (Str.ofString "chr") p) env) [] (backTo pos (starEach [e] env)) (backToKw pos (keywordEach [] env))) := by rfl) :
    wpAny (model PG w) A (eval (.Call (.Name (Str.ofString "chr") p) [e] [] pos) env) Q E s := by
  refine Call_ (Gd.built G (nsIn_chr _) boot_chr (callWith_builtin1 (args_cons (wpAny_mono h (fun v s₁ h₁ => ?_) fun _ _ x => x) he) he) (by decide) hk hl hg hb) hc
  obtain ⟨t, rfl, hq⟩ := h₁
  exact args_nil (P.chr_of_int (by decide) (hq _ _))
end
end Mine
end
section
open PySem PySem.W PyProof.Rows PySem.Calls PySem.Builtin
set_option maxHeartbeats 1000000
namespace Mine
variable [Bs]
theorem lkE {m : List (Str × Value)} {x : Str} {v : Value} : ((x, v) :: m).lookup x = some v := by simp
theorem lkN {m : List (Str × Value)} {x y : Str} {v : Value} {r : Option Value} (e : m.lookup x = r) (h : (x == y) = false := by decide) : ((y, v) :: m).lookup x = r := by rw [List.lookup_cons, h]; exact e
theorem isListExt {X : Addr → Prop} {h h' : Heap} {l : Addr} {vs : Array Value} (x : h.IsList l vs) (e : Ext X h h') (n : ¬ X l) : h'.IsList l vs := by
  obtain ⟨o, ho, hc, k, hd⟩ := x
  exact ⟨o, e.get ho n (.inr fun _ _ z => nomatch (hd.symm.trans z)), hc, k, hd⟩
noncomputable abbrev Nw (n : Nat) : Addr → Prop := fun b => n ≤ b
theorem Ext.nw {h h' : Heap} (x : Ext (Nw h.objs.size) h h') : Ext Non h h' := fun a o e n => x a o e fun q => absurd (Heap.lt_size e) (Nat.not_lt.mpr q)
theorem Ext.up {X Y : Addr → Prop} {h h' h'' : Heap} (x : Ext X h h') (y : Ext Y h' h'') (i : ∀ a, Y a → X a) : Ext X h h'' := x.trans (y.mono i)
/- sizes do not shrink: what was there is there -/
theorem Ext.lt {X : Addr → Prop} {h h' : Heap} (x : Ext X h h') {a : Addr} {o : Obj} (e : h.get? a = some o) (n : ¬ X a) : a < h'.objs.size := by
  obtain ⟨o', e', _⟩ := x.data e n
  exact Heap.lt_size e'
theorem pickUp (vs : List Value) (n : Nat) : (slicePick vs.toArray none (some (n : Int)) none).toList = vs.take n := by
  have e : kms_hi (some (n : Int)) vs.length = min n vs.length := by
    unfold kms_hi
    dsimp only
    rw [if_neg (by omega), Int.toNat_natCast]
  rw [kms_pick_eq]
  show (vs.drop 0).take (kms_hi (some (n : Int)) vs.length - 0) = _
  rw [e, List.drop_zero, Nat.sub_zero, List.take_eq_take_min]
  simp
theorem pickFrom (vs : List Value) (n : Nat) : (slicePick vs.toArray (some (n : Int)) none none).toList = vs.drop n := by
  have e : kms_lo (some (n : Int)) vs.length = min n vs.length := by
    unfold kms_lo
    dsimp only
    rw [if_neg (by omega), Int.toNat_natCast]
  rw [kms_pick_eq]
  show (vs.drop (kms_lo (some (n : Int)) vs.length)).take (vs.length - kms_lo (some (n : Int)) vs.length) = _
  rw [e]
  by_cases h : n ≤ vs.length
  · rw [Nat.min_eq_left h]; exact List.take_of_length_le (by simp)
  · rw [Nat.min_eq_right (by omega), List.drop_of_length_le (Nat.le_refl _), List.drop_of_length_le (by omega), List.take_nil]
section
variable {w : World} {A : Around} {E : Value → Shared → Prop} {s : Shared} {env : Env}
theorem Loc.storeZ {l : List (Str × Value)} {x : Str} {v : Value} {Q : Unit → Shared → Prop} (F : Loc s.heap env.locals l)
    (h : ∀ h', Loc h' env.locals ((x, v) :: l) → Ext (At env.locals) s.heap h' → s.heap.objs.size ≤ h'.objs.size → Q () { s with heap := h', toks := s.toks + 1 })
    (hk : env.scope.kind = .function := by rfl) (hl : env.kindOf x = some .local := by rfl) : wpAny (model PG w) A (storeName env x v) Q E s :=
  wpAny_with_size (Loc.store F (fun h' a b z => h h' a b z) hk hl)
theorem Ext.stN {X : Addr → Prop} {h h' h'' : Heap} {N : Nat} (x : Ext X h h') (y : Ext (Nw N) h' h'') (l : h.objs.size ≤ N) : Ext X h h'' :=
  x.step y fun a o e z => absurd (Heap.lt_size e) (Nat.not_lt.mpr (Nat.le_trans l z))
theorem nsNLI {h : Heap} {b : Addr} {m : Str → Option Value} (x : h.Ns b m) : ¬ LI h b := fun ⟨o', vs, ho', hc', hd', _⟩ => by
  obtain ⟨o, es, ep, ho, hd, _⟩ := x
  rw [ho] at ho'; cases ho'; rw [hd] at hd'; cases hd'
theorem lsNLI {h : Heap} {b : Addr} {xs : List Value} (x : Ls h b xs) : ¬ LI h b := fun ⟨o', vs, ho', hc', hd', _⟩ => by
  obtain ⟨n, ho⟩ := x
  rw [ho] at ho'; cases ho'; cases hd'
theorem listLoop {I l : Addr} {target : Expr} {vs : List Value} {body : List Stmt} {R : Result → Shared → Prop} (hh : A.handled = none) (P : Nat → Shared → Prop)
    (hl : Ls s.heap l vs) (hit : s.heap.IsListIter I l 0) (h0 : P 0 s)
    (st : ∀ i s h tk, P i s → NC s.heap I → s.heap.objs.size ≤ h.objs.size → Ext (At I) s.heap h → P i { s with heap := h, toks := tk })
    (step : ∀ i v s, vs[i]? = some v → P i s → wpAny (model PG w) A (assign target env v) (fun _ s₃ => wpAny (model PG w) A (execs body env) (fun f s₄ => f = .next ∧ P (i + 1) s₄ ∧ Ext (fun b => b ≠ I ∧ b ≠ l) s.heap s₄.heap) NoE s₃) NoE s)
    (done : ∀ s, P vs.length s → R (.ok .next) s) (ht : ∀ v, letOwnedTupleGo target (.ref I) v = pure () := by intro _; rfl) :
    codeAny (model PG w) A (.forLoop target (.ref I) body [] env) R s := by
  refine codeAny_forLoop (fun n s' => ∃ i, n = vs.length - i ∧ i ≤ vs.length ∧ P i s' ∧ Ls s'.heap l vs ∧ s'.heap.IsListIter I l i) ?_ (vs.length - 0) ⟨0, rfl, Nat.zero_le _, h0, hl, hit⟩ ht
  rintro n s₁ ⟨i, rfl, hi, hP, hl₁, hit₁⟩
  have ne : l ≠ I := fun q => by
    obtain ⟨o, ho, hc, _⟩ := hit₁
    obtain ⟨o', ho', hc'⟩ := hl₁.get
    rw [q] at ho'; rw [ho] at ho'; cases ho'; rw [hc] at hc'; exact absurd hc' (by decide)
  by_cases hlt : i < vs.length
  · refine wpAny_with_size (wpAny_pyNext_list_item (x := vs[i]) hit₁ hl₁.isList (by simp [hlt]) fun h' x y hsz => ?_)
    have z : Ext (At I) s₁.heap h' := Ext.sameBut y rfl
    have P' := st i s₁ h' s₁.toks hP (.it hit₁) hsz z
    refine noE (wpAny_mono (step i vs[i] _ (List.getElem?_eq_getElem hlt) P') (fun _ s₃ q => noE (wpAny_mono q (fun f s₄ q => ?_) fun _ _ q => q)) fun _ _ q => q)
    obtain ⟨rfl, hP', x'⟩ := q
    exact ⟨vs.length - (i + 1), by omega, i + 1, rfl, hlt, hP', (hl₁.ext z ne).ext x' fun q => q.2 rfl, itExt x x' fun q => q.1 rfl⟩
  · have e : i = vs.length := Nat.le_antisymm hi (Nat.le_of_not_lt hlt)
    refine wpAny_with_size (wpAny_pyNext_list_end hh hit₁ hl₁.isList (by simp; omega) fun h' x hsz => ?_)
    have z : Ext (At I) s₁.heap h' := fun b o e n => ⟨o.slots, x b o n e, fun _ => rfl⟩
    exact wpAny_execs_nil (done _ (e ▸ st i s₁ h' s₁.toks hP (.it hit₁) hsz z))
/- a for statement over a list -/
inductive ForLb [Bs] (s₁ : Shared) (h₂ : Heap) (I : Addr) (vs : List Value) (w : World) (A : Around) (target : Expr) (env : Env) (body : List Stmt) (l : Addr) (Q : Flow → Shared → Prop) : Prop
  | mk (P : Nat → Shared → Prop) (e0 : P 0 { s₁ with heap := h₂ }) (e1 : (∀ i s h tk, P i s → NC s.heap I → s.heap.objs.size ≤ h.objs.size → Ext (At I) s.heap h → P i { s with heap := h, toks := tk })) (e2 : (∀ i v s, vs[i]? = some v → P i s → wpAny (model PG w) A (assign target env v) (fun _ s₃ => wpAny (model PG w) A (execs body env) (fun f s₄ => f = .next ∧ P (i + 1) s₄ ∧ Ext (fun b => b ≠ I ∧ b ≠ l) s.heap s₄.heap) NoE s₃) NoE s)) (e3 : (∀ s, P vs.length s → Q .next s)) : ForLb s₁ h₂ I vs w A target env body l Q
inductive ForLa [Bs] (v : Value) (s₁ : Shared) (w : World) (A : Around) (target : Expr) (env : Env) (body : List Stmt) (Q : Flow → Shared → Prop) : Prop
  | mk (l : Addr) (vs : List Value) (e0 : v = .ref l) (e1 : Ls s₁.heap l vs) (e2 : ∀ I h₂, I = s₁.heap.objs.size → Ext Non s₁.heap h₂ → Ls h₂ l vs → I < h₂.objs.size →       ForLb s₁ h₂ I vs w A target env body l Q) : ForLa v s₁ w A target env body Q
theorem forL {target iter : Expr} {body : List Stmt} {pos : Pos} {Q : Flow → Shared → Prop} (hh : A.handled = none)
    (h : wpAny (model PG w) A (eval iter env) (fun v s₁ => ForLa v s₁ w A target env body Q) E s)
    (hs : ∀ x, foldedSetIterable iter env x = pure x := by intro _; rfl) (ht : ∀ v w, letOwnedTupleGo target w v = pure () := by intro _ _; rfl) :
    wpAny (model PG w) A (exec (.For target iter body [] pos) env) Q E s := by
  refine For_ (wpAny_mono h (fun v s₁ q => ?_) fun _ _ e => e) hs
  obtain ⟨l, vs, rfl, hl, q⟩ := q
  refine wpAny_pyIter_list hl.isList ?_
  have x : Ext Non s₁.heap (s₁.heap.push { cls := .type "list_iterator", data := .fields #[.ref l, .int 0 0] }) := Ext.push _ _ _
  have hit : (s₁.heap.push { cls := .type "list_iterator", data := .fields #[.ref l, .int 0 0] }).IsListIter s₁.heap.objs.size l 0 := ⟨_, Heap.get?_push_size _ rfl, rfl, rfl⟩
  have hl₂ := hl.ext x id
  obtain ⟨P, h0, st, step, done⟩ := q _ _ rfl x hl₂ (by rw [Heap.size_push]; exact Nat.lt_succ_self _)
  exact listLoop (s := { s₁ with heap := _ }) hh P hl₂ hit h0 st step (fun s hP => ⟨rfl, done s hP⟩) fun v => ht v _
/- a loop over a range -/
theorem rangeLoop {I : Addr} {N : Nat} {target : Expr} {body : List Stmt} {R : Result → Shared → Prop} (hh : A.handled = none) (P : Nat → Shared → Prop) (hit : IsRangeIter s.heap I 0 (N : Int) 1) (h0 : P 0 s)
    (st : ∀ i s h tk, P i s → NC s.heap I → s.heap.objs.size ≤ h.objs.size → Ext (At I) s.heap h → P i { s with heap := h, toks := tk })
    (step : ∀ i t s, i < N → P i s → wpAny (model PG w) A (assign target env (.int (i : Nat) t)) (fun _ s₃ => wpAny (model PG w) A (execs body env) (fun f s₄ => f = .next ∧ P (i + 1) s₄ ∧ Ext (fun b => b ≠ I) s.heap s₄.heap) NoE s₃) NoE s)
    (done : ∀ s, P N s → R (.ok .next) s) (ht : ∀ v, letOwnedTupleGo target (.ref I) v = pure () := by intro _; rfl) :
    codeAny (model PG w) A (.forLoop target (.ref I) body [] env) R s := by
  refine codeAny_forLoop (fun n s' => ∃ i : Nat, n = N - i ∧ i ≤ N ∧ P i s' ∧ IsRangeIter s'.heap I i ((N - i : Nat) : Int) 1) ?_ (N - 0) ⟨0, rfl, Nat.zero_le _, h0, hit⟩ ht
  rintro n s₁ ⟨i, rfl, hi, hP, hit₁⟩
  by_cases hlt : i < N
  · refine wpAny_with_size (wpAny_pyNext_range_item hit₁ (by omega) fun h' x y hsz => ?_)
    have e1 : ((i : Nat) : Int) + 1 = ((i + 1 : Nat) : Int) := by omega
    have e2 : ((N - i : Nat) : Int) - 1 = ((N - (i + 1) : Nat) : Int) := by omega
    rw [e1, e2] at x
    have z : Ext (At I) s₁.heap h' := Ext.sameBut y rfl
    have P' := st i s₁ h' (s₁.toks + 1) hP (.ir hit₁) hsz z
    refine noE (wpAny_mono (step i _ _ hlt P') (fun _ s₃ q => noE (wpAny_mono q (fun f s₄ q => ?_) fun _ _ q => q)) fun _ _ q => q)
    obtain ⟨rfl, hP', x'⟩ := q
    exact ⟨N - (i + 1), by omega, i + 1, rfl, hlt, hP', x'.get x (fun q => q rfl) (.inr fun _ _ z => nomatch z)⟩
  · have e : i = N := Nat.le_antisymm hi (Nat.le_of_not_lt hlt)
    refine wpAny_with_size (wpAny_pyNext_range_end hh hit₁ (by omega) fun h' x hsz => ?_)
    have z : Ext (At I) s₁.heap h' := fun b o e n => ⟨o.slots, x b o n e, fun _ => rfl⟩
    exact wpAny_execs_nil (done _ (e ▸ st i s₁ h' s₁.toks hP (.ir hit₁) hsz z))
/- a for statement over a range that is called by name -/
inductive ForRb [Bs] (s₁ : Shared) (h₂ : Heap) (I : Addr) (N : Nat) (w : World) (A : Around) (target : Expr) (env : Env) (body : List Stmt) (Q : Flow → Shared → Prop) : Prop
  | mk (P : Nat → Shared → Prop) (e0 : P 0 { s₁ with heap := h₂ }) (e1 : (∀ i s h tk, P i s → NC s.heap I → s.heap.objs.size ≤ h.objs.size → Ext (At I) s.heap h → P i { s with heap := h, toks := tk })) (e2 : (∀ i t s, i < N → P i s → wpAny (model PG w) A (assign target env (.int (i : Nat) t)) (fun _ s₃ => wpAny (model PG w) A (execs body env) (fun f s₄ => f = .next ∧ P (i + 1) s₄ ∧ Ext (fun b => b ≠ I) s.heap s₄.heap) NoE s₃) NoE s)) (e3 : (∀ s, P N s → Q .next s)) : ForRb s₁ h₂ I N w A target env body Q
inductive ForRa [Bs] (v : Value) (s₁ : Shared) (w : World) (A : Around) (target : Expr) (env : Env) (body : List Stmt) (Q : Flow → Shared → Prop) : Prop
  | mk (r : Addr) (N : Nat) (t u z : Tok) (e0 : v = .ref r) (e1 : IsRange s₁.heap r 0 (N : Nat) 1 t u z) (e2 : N < 2 ^ 30) (e3 : ∀ I h₂, I = s₁.heap.objs.size → Ext Non s₁.heap h₂ → I < h₂.objs.size →       ForRb s₁ h₂ I N w A target env body Q) : ForRa v s₁ w A target env body Q
theorem forR {target iter : Expr} {body : List Stmt} {pos : Pos} {Q : Flow → Shared → Prop} (hh : A.handled = none)
    (h : wpAny (model PG w) A (eval iter env) (fun v s₁ => ForRa v s₁ w A target env body Q) E s)
    (hs : ∀ x, foldedSetIterable iter env x = pure x := by intro _; rfl) (ht : ∀ v w, letOwnedTupleGo target w v = pure () := by intro _ _; rfl) :
    wpAny (model PG w) A (exec (.For target iter body [] pos) env) Q E s := by
  refine For_ (wpAny_mono h (fun v s₁ q => ?_) fun _ _ e => e) hs
  obtain ⟨r, N, t, u, z, rfl, hr, hN, q⟩ := q
  have e : Builtin.Range.rangeSize 0 (N : Nat) 1 = (N : Int) := by rw [rangeSize_one]; split <;> omega
  refine wpAny_pyIter_range hr (small_one (by omega) (by omega) (by omega) (by omega)) ?_
  rw [e]
  have hit : IsRangeIter (s₁.heap.push { cls := .type "range_iterator", data := .fields #[rawInt 0, rawInt (N : Nat), rawInt 1] }) s₁.heap.objs.size 0 (N : Nat) 1 := Heap.get?_push_size _ rfl
  have x : Ext Non s₁.heap (s₁.heap.push { cls := .type "range_iterator", data := .fields #[rawInt 0, rawInt (N : Nat), rawInt 1] }) := Ext.push _ _ _
  obtain ⟨P, h0, st, step, done⟩ := q _ _ rfl x (by rw [Heap.size_push]; exact Nat.lt_succ_self _)
  exact rangeLoop (s := { s₁ with heap := _ }) hh P hit h0 st step (fun s hP => ⟨rfl, done s hP⟩) fun v => ht v _
end
end Mine
end
section
open PySem PySem.W PyProof.Rows PySem.Calls PySem.Builtin
set_option maxHeartbeats 8000000
namespace Mine
variable [Bs]
noncomputable def wordsS : List Str := [Str.ofString "a", Str.ofString "b", Str.ofString "ab", Str.ofString "ba", Str.ofString "aab", Str.ofString "bba"]
noncomputable def kindI (x : Int) : Int := (x.fdiv 36).fmod 8
noncomputable def srcI (x : Int) : Nat := (x.fmod 6).toNat
noncomputable def tgtI (x : Int) : Nat := ((x.fdiv 6).fmod 6).toNat
noncomputable def mark (b : Bool) : Str := if b = true then ⟨#[233]⟩ else Str.ofString ""
noncomputable def tagS (x : Int) : Str := Str.ofString "{" ++ (mark (kindI x == 7) ++ wordsS.getD (srcI x) (Str.ofString "")) ++ Str.ofString "}" ++ (mark (kindI x == 6) ++ wordsS.getD (tgtI x) (Str.ofString ""))
noncomputable def xsOf (ns : List Int) : List Int := [32, 15, 18, 7, 220, 282] ++ ns.take 10
noncomputable def tagsOf (ns : List Int) : List (Option Str) := none :: (wordsS.map some ++ (xsOf ns).map fun x => some (tagS x))
noncomputable def TV (v : Value) : Option Str → Prop
  | none => v = .none
  | some x => SV v x
theorem srcI_lt (x : Int) : srcI x < 6 := by unfold srcI; have := Int.fmod_nonneg_of_pos x (show (0:Int) < 6 by decide); have := Int.fmod_lt_of_pos x (show (0:Int) < 6 by decide); omega
theorem tgtI_lt (x : Int) : tgtI x < 6 := by unfold tgtI; have := Int.fmod_nonneg_of_pos (x.fdiv 6) (show (0:Int) < 6 by decide); have := Int.fmod_lt_of_pos (x.fdiv 6) (show (0:Int) < 6 by decide); omega
noncomputable def strLit : Expr → Option Str
  | .Constant (.str x) 0 _ => some x
  | _ => none
noncomputable def intLit : Expr → Option Int
  | .Constant (.int x) 0 _ => some x
  | _ => none
section
variable {w : World} {A : Around} {E : Value → Shared → Prop} {env : Env} {pos : Pos}
theorem strsLit : ∀ {elts : List Expr} {ss : List Str} {s : Shared} {Q : List Value → Shared → Prop}, elts.map strLit = ss.map some → (∀ vs tk, All2 SV vs ss → Q vs { s with toks := tk }) → wpAny (model PG w) A (spliced (backTo pos (starEach elts env))) Q E s
  | [], [], s, Q, _, h => args_nil (h [] s.toks .nil)
  | [], _ :: _, _, _, e, _ => by simp at e
  | _ :: _, [], _, _, e, _ => by simp at e
  | x :: elts, y :: ss, s, Q, e, h => by
    simp only [List.map_cons, List.cons.injEq] at e
    obtain ⟨e1, e2⟩ := e
    unfold strLit at e1
    split at e1
    · rename_i z p
      cases e1
      exact args_cons (Constant_str (strsLit e2 fun vs tk a => h _ tk (.cons ⟨_, rfl⟩ a)))
    · cases e1
theorem intsLit : ∀ {elts : List Expr} {ss : List Int} {s : Shared} {Q : List Value → Shared → Prop}, elts.map intLit = ss.map some → (∀ vs tk, All2 IV vs ss → Q vs { s with toks := tk }) → wpAny (model PG w) A (spliced (backTo pos (starEach elts env))) Q E s
  | [], [], s, Q, _, h => args_nil (h [] s.toks .nil)
  | [], _ :: _, _, _, e, _ => by simp at e
  | _ :: _, [], _, _, e, _ => by simp at e
  | x :: elts, y :: ss, s, Q, e, h => by
    simp only [List.map_cons, List.cons.injEq] at e
    obtain ⟨e1, e2⟩ := e
    unfold intLit at e1
    split at e1
    · rename_i z p
      cases e1
      exact args_cons (wpAny_Constant_int (intsLit e2 fun vs tk a => h _ tk (.cons ⟨_, rfl⟩ a)))
    · cases e1
end
theorem wordsS_len : ∀ x ∈ wordsS, x.length ≤ 3 := by decide
theorem wordsAt {i : Nat} (h : i < 6) : ∃ x, wordsS[i]? = some x ∧ x = wordsS.getD i (Str.ofString "") ∧ x.length ≤ 3 := by
  have hl : i < wordsS.length := h
  exact ⟨wordsS[i], List.getElem?_eq_getElem hl, by simp [List.getD, List.getElem?_eq_getElem hl], wordsS_len _ (List.getElem_mem hl)⟩
section
variable {w : World} {A : Around} {E : Value → Shared → Prop} {s : Shared} {env : Env} {mg mb : Str → Option Value}
/- (chr(233) if kind == c else '') -/
theorem mark_ {x : Str} {k c : Int} {t : Tok} {l : List (Str × Value)} {k1 k2 k3 : Nat} {p1 p2 p3 p4 p5 p6 p7 p8 : Pos} {Q : Value → Shared → Prop} (G : Gd w mg mb s.heap) (F : Loc s.heap env.locals l) (hx : l.lookup x = some (.int k t))
    (h : ∀ t tk, Q (.str (mark (k == c)) t) { s with toks := tk }) (hd : (x == ("__debug__" : Str)) = false := by decide)
    (hk : env.scope.kind = .function := by rfl) (hlx : env.kindOf x = some .local := by rfl) (hl : env.kindOf (Str.ofString "chr") = some .globalImplicit := by rfl) (hg : env.globals = mainGlobals := by rfl) (hb : env.builtins = builtinsNs := by rfl)
    (he : starEach [.Constant (.int 233) k2 p3] env = [(false, eval (.Constant (.int 233) k2 p3) env)] := by rfl)
    (hc : eval (.Call (.Name (Str.ofString "chr") p4) [.Constant (.int 233) k2 p3] [] p5) env = (do callWith p5 (← eval (.Name (Str.ofString "chr") p4) env) [] (backTo p5 (starEach [.Constant (.int 233) k2 p3] env)) (backToKw p5 (keywordEach [] env))) := by rfl) :
    wpAny (model PG w) A (eval (.IfExp (.Compare (.Name x p1) [.Eq] [.Constant (.int c) k1 p2] p8) (.Call (.Name (Str.ofString "chr") p4) [.Constant (.int 233) k2 p3] [] p5) (.Constant (.str (Str.ofString "")) k3 p6) p7) env) Q E s := by
  refine wpAny_IfExp (wpAny_isTrue_Compare1 (Loc.name F hx (wpAny_Constant_int (P.eq_int (wpAny_truthy_bool ?_))) hk hlx hd))
  cases q : k == c with
  | true =>
    rw [if_pos rfl]
    exact chr_ (s := { s with toks := _ }) G (wpAny_Constant_int ⟨_, rfl, fun t tk => by have := h t tk; rw [q] at this; exact this⟩) hk hl hg hb he hc
  | false =>
    rw [if_neg Bool.false_ne_true]
    exact Constant_str (by have := h (s.toks + 1) (s.toks + 1 + 1); rw [q] at this; exact this)
end
theorem mark_len (b : Bool) : (mark b).length ≤ 1 := by cases b <;> decide
theorem small2 {a b m n : Nat} (ha : a ≤ m) (hb : b ≤ n) (h : m + n ≤ 1000 := by decide) : a + b ≤ sizeLine := by rw [sizeLine_eq]; omega
theorem apl {a b : Str} {m n : Nat} (ha : a.length ≤ m) (hb : b.length ≤ n) : (a ++ b).length ≤ m + n := by rw [Str.length_append]; omega
theorem xsOf_len (ns : List Int) : (xsOf ns).length ≤ 16 := by
  unfold xsOf
  rw [List.length_append]
  exact Nat.add_le_add_left (List.length_take_le 10 ns) 6
inductive TgP [Bs] (r : Result) (s' : Shared) (s : Shared) (ns : List Int) : Prop
  | mk (h' : _) (tk : _) (D : _) (ts : _) (e0 : r = .ok (.ret (.ref D))) (e1 : s' = { s with heap := h', toks := tk }) (e2 : Ext Non s.heap h') (e3 : s.heap.objs.size ≤ D) (e4 : Ls h' D ts) (e5 : All2 TV ts (tagsOf ns)) : TgP r s' s ns
inductive TgI [Bs] (s' : Shared) (s : Shared) (T : Addr) (h₁₀ : Heap) (ns : List Int) (i : Nat) (W : Addr) (ws : List Value) : Prop
  | mk (h : _) (tk : _) (ts : _) (m : _) (e0 : s' = { s with heap := h, toks := tk }) (e1 : Ext (fun b => b = s.heap.objs.size ∨ b = T) h₁₀ h) (e2 : Ls h T ts) (e3 : All2 TV ts ((none :: wordsS.map some) ++ ((xsOf ns).take i).map fun x => some (tagS x))) (e4 : Ls h W ws) (e5 : Loc h s.heap.objs.size m) (e6 : m.lookup (Str.ofString "tags") = some (.ref T)) (e7 : m.lookup (Str.ofString "words") = some (.ref W)) : TgI s' s T h₁₀ ns i W ws
theorem tags_spec {w : World} {mg mb : Str → Option Value} {A : Around} {s : Shared} {sc : Addr} {vs : List Value} {ns : List Int} (G : Gd w mg mb s.heap) (R : Rm A 3) (hs : 114 < s.heap.objs.size) (hsc : s.heap.IsList sc vs.toArray) (hv : All2 IV vs ns) (hlen : ns.length < 100) :
    codeAny (model PG w) A (.call (.ref 92) ⟨[.ref sc], []⟩) (fun r s' => TgP r s' s ns) s := by
  refine call_plain_ret R.d (G.k 92 _ rfl) rfl G.lim (codeRec_of G.k rfl) rfl (locs rfl) (fun h₁ F => ?_)
  refine hide fun Q0 hQ0 => ?_
  have FL : Loc h₁ s.heap.objs.size [(Str.ofString "script", .ref sc)] := F.ns
  have E₁ : Ext Non s.heap h₁ := Ext.of F.keep _
  have G₁ : Gd w mg mb h₁ := G.ext E₁ fun _ q => q.elim
  have hsc₁ := isListExt hsc E₁ id
  have hsz₁ : s.heap.objs.size < h₁.objs.size := by obtain ⟨o, es, ep, ho, _⟩ := FL; exact Heap.lt_size ho
  clear F
  refine wpAny_execs_cons ?_
  refine wpAny_Assign_Name ?_
  refine List_ ?_
  refine strsLit (ss := wordsS) (by kernel_rfl) ?_
  intro ws tk₂ hws
  refine newL (by rw [hws.1]; decide) ?_
  intro W h₂ hW LW x₂
  refine Loc.store (FL.ext x₂ id) ?_
  intro h₃ FL₃ x₃
  have hWL : W ≠ s.heap.objs.size := fun q => by rw [q] at hW; exact absurd hsz₁ (by rw [hW]; exact Nat.lt_irrefl _)
  have LW₃ := LW.ext x₃ hWL
  have sz₃ : h₁.objs.size < h₃.objs.size := by have := LW₃.lt; rwa [hW] at this
  refine wpAny_execs_cons ?_
  refine wpAny_Assign_Name ?_
  refine wpAny_BinOp ?_
  refine List_ ?_
  refine args_cons ?_
  refine wpAny_Constant_none ?_
  refine args_nil ?_
  refine newL (by decide) ?_
  intro N h₄ hN LN x₄
  refine Loc.name (FL₃.ext x₄ id) rfl ?_
  refine addL LN (LW₃.ext x₄ id) (by rw [hws.1]; decide) ?_
  intro T h₅ hT LT x₅
  refine Loc.store ((FL₃.ext x₄ id).ext x₅ id) ?_
  intro h₆ FL₆ x₆
  have hTL : T ≠ s.heap.objs.size := fun q => by
    have := FL₃.lt
    have h4 := (FL₃.ext x₄ id).lt
    rw [q] at hT; rw [hT] at h4; exact absurd h4 (Nat.lt_irrefl _)
  have hWT : W ≠ T := fun q => by
    have := (LW₃.ext x₄ id).lt
    rw [q, hT] at this; exact absurd this (Nat.lt_irrefl _)
  have e₆ : Ext Non s.heap h₆ := ((((E₁.non x₂).st x₃ (Nat.le_refl _)).non x₄).non x₅).st x₆ (Nat.le_refl _)
  have LT₆ := LT.ext x₆ hTL
  have LW₆ := ((LW₃.ext x₄ id).ext x₅ id).ext x₆ hWL
  have G₆ : Gd w mg mb h₆ := G.ext e₆ fun _ q => q.elim
  have hsc₆ := isListExt hsc e₆ id
  have hscv : (slicePick vs.toArray none (some 10) none).toList = vs.take 10 := pickUp vs 10
  have hSC : sc < s.heap.objs.size := by obtain ⟨o, ho, _⟩ := hsc; exact Heap.lt_size ho
  refine wpAny_execs_cons ?_
  refine forL ?_ ?_
  exact R.handled
  refine wpAny_BinOp ?_
  refine List_ ?_
  refine intsLit (ss := [32, 15, 18, 7, 220, 282]) (by kernel_rfl) ?_
  intro xs tk₇ hxs
  have hxl : xs.length = 6 := hxs.1
  refine newL (by rw [hxl]; decide) ?_
  intro X h₇ hX LX x₇
  refine list_ (s := { s with heap := h₇, toks := _ }) (G₆.ext x₇ fun _ q => q.elim) ?_
  refine cutL ?_
  refine Loc.name (FL₆.ext x₇ id) rfl ?_
  refine partNo ?_
  refine partLit ?_
  intro t tk₈
  refine ⟨sc, vs, none, some 10, rfl, isListExt hsc₆ x₇ id, by rw [hv.1]; exact Nat.lt_trans hlen (by decide), .none, .int _ _, fun S h₈ hS LS x₈ => ?_⟩
  rw [hscv] at LS
  refine ⟨S, _, rfl, LS.isList, Nat.lt_of_le_of_lt (List.length_take_le _ _) (by decide), ?_⟩
  intro S' h₉ hS' LS' x₉
  refine addL ((LX.ext x₈ id).ext x₉ id) LS' ?_ ?_
  · rw [hxl]; exact Nat.lt_of_le_of_lt (Nat.add_le_add_left (List.length_take_le _ _) _) (by decide)
  intro Y h₁₀ hY LY x₁₀
  refine ⟨Y, _, rfl, LY, ?_⟩
  intro I h₁₁ hI x₁₁ LY' hIs
  have hX' : X = h₆.objs.size := hX
  have hys : All2 IV (xs ++ vs.take 10) (xsOf ns) := hxs.append (hv.take 10)
  have e₁₁ : Ext Non h₆ h₁₁ := (((x₇.non x₈).non x₉).non x₁₀).non x₁₁
  have szI : h₆.objs.size ≤ I := Nat.le_trans (Nat.le_of_lt (by have := ((LX.ext x₈ id).ext x₉ id).lt; rw [hX'] at this; exact this)) (by rw [hI]; show h₉.objs.size ≤ h₁₀.objs.size; have := LY.lt; rw [hY] at this; exact Nat.le_of_lt this)
  have ltT := LT₆.lt
  have ltW := LW₆.lt
  have ltL := FL₆.lt
  have YI : Y ≠ I := fun q => by have := LY.lt; rw [q, hI] at this; exact absurd this (Nat.lt_irrefl _)
  have szY : h₆.objs.size ≤ Y := Nat.le_trans (Nat.le_of_lt (by have := ((LX.ext x₈ id).ext x₉ id).lt; rw [hX'] at this; exact this)) (by rw [hY]; exact Nat.le_refl _)
  have nT : T ≠ I := Nat.ne_of_lt (Nat.lt_of_lt_of_le ltT szI)
  have nW : W ≠ I := Nat.ne_of_lt (Nat.lt_of_lt_of_le ltW szI)
  have nL : s.heap.objs.size ≠ I := Nat.ne_of_lt (Nat.lt_of_lt_of_le ltL szI)
  have nYT : Y ≠ T := Ne.symm (Nat.ne_of_lt (Nat.lt_of_lt_of_le ltT szY))
  have nYL : Y ≠ s.heap.objs.size := Ne.symm (Nat.ne_of_lt (Nat.lt_of_lt_of_le ltL szY))
  have e₁₀ : Ext Non h₆ h₁₀ := ((x₇.non x₈).non x₉).non x₁₀
  have I₁₀ : h₁₀.objs.size ≤ I := Nat.le_of_eq hI.symm
  have LW₁₁ := LW₆.ext e₁₁ id
  have LT₁₁ := LT₆.ext e₁₁ id
  have FL₁₁ := FL₆.ext e₁₁ id
  have e₁₀' := e₆.non e₁₀
  have hSD : s.heap.objs.size ≤ T := by rw [hT]; exact Nat.le_of_lt (FL₃.ext x₄ id).lt
  have hTV : All2 TV (([] : List Value) ++ [Value.none] ++ ws) (none :: wordsS.map some) := .cons rfl ⟨by rw [List.length_map]; exact hws.1, fun i x y hx hy => by
    rw [List.getElem?_map] at hy
    cases e : wordsS[i]? with
    | none => rw [e] at hy; cases hy
    | some z => rw [e] at hy; cases hy; exact hws.2 i x z hx e⟩
  refine ⟨fun i s' => TgI s' s T h₁₀ ns i W ws, ?_, ?_, ?_, ?_⟩
  · refine ⟨h₁₁, _, _, _, rfl, x₁₁.mono fun _ q => q.elim, LT₁₁, ?_, LW₁₁, FL₁₁, rfl, rfl⟩
    rw [List.take_zero, List.map_nil, List.append_nil]
    exact hTV
  · rintro i _ h tk ⟨h₀, tk₀, ts, m, rfl, x₀, LT₀, a2, LW₀, F₀, m1, m2⟩ _ _ x
    exact ⟨h, tk, ts, m, rfl, x₀.st x I₁₀, LT₀.ext x nT, a2, LW₀.ext x nW, F₀.ext x nL, m1, m2⟩
  · rintro i v _ hi ⟨h₀, tk₀, ts, m, rfl, x₀, LT₀, a2, LW₀, F₀, m1, m2⟩
    refine hideB fun Q1 hQ1 => ?_
    obtain ⟨x, hx, tx, rfl⟩ := hys.at' hi
    obtain ⟨ws1, hw1, ew1, lw1⟩ := wordsAt (srcI_lt x)
    obtain ⟨v1, hv1, tv1, rfl⟩ := hws.at hw1
    have n1 : 0 ≤ x.fmod 6 := Int.fmod_nonneg_of_pos x (by decide)
    have n1' : x.fmod 6 < 2 ^ 63 := Int.lt_trans (Int.fmod_lt_of_pos x (by decide)) (by decide)
    obtain ⟨ws2, hw2, ew2, lw2⟩ := wordsAt (tgtI_lt x)
    obtain ⟨v2, hv2, tv2, rfl⟩ := hws.at hw2
    have n2 : 0 ≤ (x.fdiv 6).fmod 6 := Int.fmod_nonneg_of_pos _ (by decide)
    have n2' : (x.fdiv 6).fmod 6 < 2 ^ 63 := Int.lt_trans (Int.fmod_lt_of_pos _ (by decide)) (by decide)
    have G₀ : Gd w mg mb h₀ := (G.ext e₁₀' fun _ q => q.elim).ext x₀ fun b q => .inl (by rcases q with q | q <;> obtain rfl := q.symm; exact hs; exact Nat.lt_of_lt_of_le hs hSD)
    have hTL : T ≠ s.heap.objs.size := hTL
    have htag : tagS x = Str.ofString "{" ++ (mark (kindI x == 7) ++ ws1) ++ Str.ofString "}" ++ (mark (kindI x == 6) ++ ws2) := by unfold tagS; rw [ew1, ew2]
    have l1 : (mark (kindI x == 7) ++ ws1).length ≤ 1 + 3 := apl (mark_len _) lw1
    have l2 : (mark (kindI x == 6) ++ ws2).length ≤ 1 + 3 := apl (mark_len _) lw2
    have l3 : (Str.ofString "{" ++ (mark (kindI x == 7) ++ ws1)).length ≤ 1 + (1 + 3) := apl (by decide) l1
    have l4 : (Str.ofString "{" ++ (mark (kindI x == 7) ++ ws1) ++ Str.ofString "}").length ≤ 1 + (1 + 3) + 1 := apl l3 (by decide)
    have lts : ts.length < 2 ^ 22 := by
      rw [a2.1, List.length_append, List.length_map]
      exact Nat.lt_of_le_of_lt (Nat.add_le_add_left (Nat.le_trans (List.length_take_le' i (xsOf ns)) (xsOf_len ns)) _) (by decide)
    have hnext : ∀ t, All2 TV (ts ++ [.str (Str.ofString "{" ++ (mark (kindI x == 7) ++ ws1) ++ Str.ofString "}" ++ (mark (kindI x == 6) ++ ws2)) t]) ((none :: wordsS.map some) ++ ((xsOf ns).take (i + 1)).map fun x => some (tagS x)) := fun t => by
      rw [List.take_succ, hx, List.map_append, ← List.append_assoc]
      exact a2.append (.cons ⟨t, by rw [htag]⟩ .nil)
    refine wpAny_assign_Name ?_
    refine Loc.store F₀ ?_
    intro h₁ F₁ x₁
    have LW₁ := LW₀.ext x₁ hWL
    have LT₁ := LT₀.ext x₁ hTL
    have G₁ := G₀.ext x₁ fun b q => .inl (show 114 < b by rw [show b = s.heap.objs.size from q]; exact hs)
    -- kind
    refine wpAny_execs_cons ?_
    refine wpAny_Assign_Name ?_
    refine wpAny_BinOp ?_
    refine wpAny_BinOp ?_
    refine Loc.name F₁ lkE ?_
    refine wpAny_Constant_int ?_
    refine floordiv_int (by decide) ?_ (.inl (PyProof.noPylong_small (by decide)))
    refine wpAny_Constant_int ?_
    refine mod_int' (by decide) ?_
    refine Loc.store F₁ ?_
    intro h₂ F₂ x₂
    have LW₂ := LW₁.ext x₂ hWL
    have LT₂ := LT₁.ext x₂ hTL
    have G₂ := G₁.ext x₂ fun b q => .inl (show 114 < b by rw [show b = s.heap.objs.size from q]; exact hs)
    -- source
    refine wpAny_execs_cons ?_
    refine wpAny_Assign_Name ?_
    refine wpAny_BinOp ?_
    refine mark_ (x := Str.ofString "kind") (k := kindI x) G₂ F₂ lkE ?_
    intro t1 tk1
    refine Subscript_ ?_
    refine Loc.name F₂ (lkN (lkN m2)) ?_
    refine wpAny_BinOp ?_
    refine Loc.name F₂ (lkN lkE) ?_
    refine wpAny_Constant_int ?_
    refine mod_int' (by decide) ?_
    refine item LW₂ n1 n1' hv1 ?_
    refine PyProof.Rows.add_str ?_ ?_
    rotate_left
    · exact small2 (mark_len _) lw1
    intro t2 tk2
    refine Loc.store F₂ ?_
    intro h₃ F₃ x₃
    have LW₃ := LW₂.ext x₃ hWL
    have LT₃ := LT₂.ext x₃ hTL
    have G₃ := G₂.ext x₃ fun b q => .inl (show 114 < b by rw [show b = s.heap.objs.size from q]; exact hs)
    refine wpAny_execs_cons ?_
    refine wpAny_Assign_Name ?_
    refine wpAny_BinOp ?_
    refine mark_ (x := Str.ofString "kind") (k := kindI x) G₃ F₃ (lkN lkE) ?_
    intro t3 tk3
    refine Subscript_ ?_
    refine Loc.name F₃ (lkN (lkN (lkN m2))) ?_
    refine wpAny_BinOp ?_
    refine wpAny_BinOp ?_
    refine Loc.name F₃ (lkN (lkN lkE)) ?_
    refine wpAny_Constant_int ?_
    refine floordiv_int (by decide) ?_ (.inl (PyProof.noPylong_small (by decide)))
    refine wpAny_Constant_int ?_
    refine mod_int' (by decide) ?_
    refine item LW₃ n2 n2' hv2 ?_
    refine PyProof.Rows.add_str ?_ ?_
    rotate_left
    · exact small2 (mark_len _) lw2
    intro t4 tk4
    refine Loc.store F₃ ?_
    intro h₄ F₄ x₄
    have LT₄ := LT₃.ext x₄ hTL
    have LW₄ := LW₃.ext x₄ hWL
    refine wpAny_execs_cons ?_
    refine appendS ?_
    refine Loc.name F₄ (lkN (lkN (lkN (lkN m1)))) ?_
    refine ⟨T, ts, rfl, LT₄, ?_⟩
    refine wpAny_BinOp ?_
    refine wpAny_BinOp ?_
    refine wpAny_BinOp ?_
    refine Constant_str ?_
    refine Loc.name F₄ (lkN lkE) ?_
    refine PyProof.Rows.add_str ?_ ?_
    rotate_left
    · exact small2 (m := 1) (by decide) l1
    intro t5 tk5
    refine Constant_str ?_
    refine PyProof.Rows.add_str ?_ ?_
    rotate_left
    · exact small2 (n := 1) l3 (by decide)
    intro t6 tk6
    refine Loc.name F₄ lkE ?_
    refine PyProof.Rows.add_str ?_ ?_
    rotate_left
    · exact small2 l4 l2
    intro t7 tk7
    refine ⟨ts, LT₄, ?_, fun h₅ LT₅ x₅ => wpAny_execs_nil ?_⟩
    · exact lts
    have xx : Ext (fun b => b = s.heap.objs.size ∨ b = T) h₀ h₅ := ((((x₁.mono fun _ q => .inl q).up x₂ fun _ q => .inl q).up x₃ fun _ q => .inl q).up x₄ fun _ q => .inl q).up x₅ fun _ q => .inr q
    refine hQ1 _ _ ⟨rfl, ⟨h₅, _, _, _, rfl, x₀.trans xx, LT₅, ?_, LW₄.ext x₅ hWT, F₄.ext x₅ (Ne.symm hTL), lkN (lkN (lkN (lkN m1))), lkN (lkN (lkN (lkN m2)))⟩, ?_⟩
    · exact hnext _
    · exact xx.mono fun b q => by rcases q with q | q <;> obtain rfl := q.symm; exact ⟨nL, Ne.symm nYL⟩; exact ⟨nT, Ne.symm nYT⟩
  · rintro _ ⟨h₀, tk₀, ts, m, rfl, x₀, LT₀, a2, LW₀, F₀, m1, m2⟩
    refine wpAny_execs_cons ?_
    refine wpAny_Return_some ?_
    refine Loc.name F₀ m1 ?_
    refine hQ0 _ _ ⟨h₀, _, T, ts, rfl, rfl, ?_, hSD, LT₀, ?_⟩
    · exact e₁₀'.step x₀ fun b o e q => by
        have := Heap.lt_size e
        rcases q with q | q <;> obtain rfl := q.symm
        · exact absurd this (Nat.lt_irrefl _)
        · exact absurd this (Nat.not_lt.mpr hSD)
    · rw [hys.1, List.take_length] at a2
      exact a2
end Mine
end
section
open PySem PySem.W PyProof.Rows PySem.Calls PySem.Builtin
set_option maxHeartbeats 8000000
namespace Mine
variable [Bs]
/- a table of codes all of which lie below M -/
noncomputable def TabM (h : Heap) (c P : Addr) (q : Str) (M : Nat) : Prop := ∃ ps, h.IsCode c P ps ∧ h.TableAt c P ps ∧ ∀ pos v, codeAmong pos ps.toList = some v → ∃ c', v = .ref c' ∧ Hi c' ∧ c' < M ∧ h.CodeRec (.ref c') q
theorem Tab.m {h : Heap} {c P : Addr} {q : Str} (T : Tab h c P q) : TabM h c P q h.objs.size := by
  obtain ⟨ps, a, ta, f⟩ := T
  refine ⟨ps, a, ta, fun pos v e => ?_⟩
  obtain ⟨c', rfl, x, y⟩ := f pos v e
  refine ⟨c', rfl, x, ?_, y⟩
  obtain ⟨c2, o, vs, t, e, ho, _⟩ := y
  cases e
  exact Heap.lt_size ho
theorem TabM.tab {h : Heap} {c P : Addr} {q : Str} {M : Nat} (T : TabM h c P q M) : Tab h c P q := by
  obtain ⟨ps, a, ta, f⟩ := T
  refine ⟨ps, a, ta, fun pos v e => ?_⟩
  obtain ⟨c', rfl, x, _, y⟩ := f pos v e
  exact ⟨c', rfl, x, y⟩
theorem TabM.ext {X : Addr → Prop} {h h' : Heap} {c P : Addr} {q : Str} {M : Nat} (T : TabM h c P q M) (x : Ext X h h') (hc : c ≤ 114 ∧ ¬ Tb c) (hP : Tb P) (hX : ∀ b, X b → (Tb b ∧ b ≠ P) ∨ (Hi b ∧ (NC h b ∨ M ≤ b))) : TabM h' c P q M := by
  obtain ⟨ps, ⟨o, vs, file, tf, flags, tg, inF, text, tt, op, e1, r1, r2, r3, r4, r5, r6, e2, d2, r⟩, ta, f⟩ := T
  have n1 : ¬ X c := fun z => by
    rcases hX c z with y | y
    · exact hc.2 y.1
    · exact absurd hc.1 (Nat.not_le.mpr y.1)
  have n2 : ¬ X P := fun z => by
    rcases hX P z with y | y
    · exact y.2 rfl
    · have : 114 < P := y.1
      rcases hP with rfl | rfl | rfl <;> exact absurd this (by decide)
  refine ⟨ps, ⟨o, vs, file, tf, flags, tg, inF, text, tt, op, x.get e1 n1 (.inl hc.1), r1, r2, r3, r4, r5, r6, x.get e2 n2 (.inr fun _ _ z => nomatch (d2.symm.trans z)), d2, r⟩, tableExt ta x hc.1 n1 n2, fun pos v e => ?_⟩
  obtain ⟨c', rfl, hhi, hm, y⟩ := f pos v e
  refine ⟨c', rfl, hhi, hm, codeExt y x fun z => ?_⟩
  rcases hX c' z with z | z
  · have : 114 < c' := hhi
    rcases z.1 with rfl | rfl | rfl <;> exact absurd this (by decide)
  · rcases z.2 with z | z
    · exact codeNC y z
    · exact absurd hm (Nat.not_lt.mpr z)
theorem TabM.mono {h : Heap} {c P : Addr} {q : Str} {M M' : Nat} (T : TabM h c P q M) (hM : M ≤ M') : TabM h c P q M' := by
  obtain ⟨ps, a, ta, f⟩ := T
  refine ⟨ps, a, ta, fun pos v e => ?_⟩
  obtain ⟨c', rfl, x, z, y⟩ := f pos v e
  exact ⟨c', rfl, x, Nat.lt_of_lt_of_le z hM, y⟩
theorem liNC {h : Heap} {b : Addr} (x : LI h b) : NC h b := fun o vs q t e hd => by
  obtain ⟨o', vs', e', _, hd', hs⟩ := x
  rw [e'] at e; cases e; rw [hd'] at hd; cases hd; exact hs q t
/- moving through what a sleeping generator changes -/
theorem TabM.vn {h h' : Heap} {c P : Addr} {q : Str} {M Fr N : Nat} (T : TabM h c P q M) (x : Ext (Vn Fr N h) h h') (hc : c ≤ 114 ∧ ¬ Tb c) (hP : Tb P) (hN : 114 < N) (hF : N ≤ Fr) (hM : M ≤ Fr) : TabM h' c P q M :=
  T.ext x hc hP fun b z => by
    rcases z with rfl | z
    · exact .inr ⟨Nat.lt_of_lt_of_le hN hF, .inr hM⟩
    · exact .inr ⟨Nat.lt_of_lt_of_le hN z.1, .inl (liNC z.2)⟩
theorem vnUp {Fr N : Nat} {h h' : Heap} (x : Ext (Vn Fr N h) h h') (hF : N ≤ Fr) : Ext (Nw N) h h' := x.mono fun b q => by
  rcases q with rfl | q
  · exact hF
  · exact q.1
section
variable {w : World} {A : Around} {E : Value → Shared → Prop} {s : Shared} {env : Env} {mg mb : Str → Option Value}
/- _prepare_tag(e)(None, row): a feed of what the tag picks -/
inductive Sel1 [Bs] (gv : Value) (w : World) (A : Around) (s₁ : Shared) (mg : Str → Option Value) (mb : Str → Option Value) (env : Env) (rowN : Str) (Q : Value → Shared → Prop) : Prop
  | mk (g : Str) (t : Tok) (pass : Value → Bool) (ra lo hi : Nat) (rt : List (Value × Value)) (m : List (Str × Value)) (e0 : gv = .str g t) (e1 : codeAny (model PG w) A (.call (.ref 28) ⟨[.str g t], []⟩) (PrepPost w A pass s₁) s₁) (e2 : Gd w mg mb s₁.heap) (e3 : hi ≤ s₁.heap.objs.size) (e4 : Ls s₁.heap ra (rt.map (·.1))) (e5 : (∀ v t, (v, t) ∈ rt → El s₁.heap lo hi v t ∧ Okt t)) (e6 : 114 < lo) (e7 : 114 < ra) (e8 : 114 < env.locals) (e9 : Loc s₁.heap env.locals m) (e10 : m.lookup rowN = some (.ref ra)) (e11 : ∀ a g' h' gs tk Fr, s₁.heap.objs.size ≤ Fr → Fr < h'.objs.size → Ext (At 23) s₁.heap h' → TabM h' 27 23 selQ Fr → (AllBare s₁.gens → AllBare gs) → h'.IsGen a g' →         Feed w A (.ref a) (LatG lo hi ra s₁.heap.objs.size h'.objs.size) (AdvG Fr s₁.heap.objs.size) (eqs (sel pass rt)) { s₁ with heap := h', gens := gs, toks := tk } → Q (.ref a) { s₁ with heap := h', gens := gs, toks := tk }) : Sel1 gv w A s₁ mg mb env rowN Q
theorem evalSel {e : Expr} {rowN : Str} {p1 p2 p3 p4 p5 : Pos} {k : Nat} {Q : Value → Shared → Prop} (G : Gd w mg mb s.heap)
    (h : wpAny (model PG w) A (eval e env) (fun gv s₁ => Sel1 gv w A s₁ mg mb env rowN Q) E s)
    (hk : env.scope.kind = .function := by rfl) (hl : env.kindOf (Str.ofString "_prepare_tag") = some .globalImplicit := by rfl) (hlr : env.kindOf rowN = some .local := by rfl) (hg : env.globals = mainGlobals := by rfl)
    (hd : (rowN == ("__debug__" : Str)) = false := by decide)
    (he : starEach [e] env = [(false, eval e env)] := by rfl) (he2 : starEach [.Constant .none k p3, .Name rowN p4] env = (false, eval (.Constant .none k p3) env) :: starEach [.Name rowN p4] env := by rfl) (he3 : starEach [.Name rowN p4] env = [(false, eval (.Name rowN p4) env)] := by rfl)
    (hc : eval (.Call (.Name (Str.ofString "_prepare_tag") p1) [e] [] p2) env = (do callWith p2 (← eval (.Name (Str.ofString "_prepare_tag") p1) env) [] (backTo p2 (starEach [e] env)) (backToKw p2 (keywordEach [] env))) := by rfl)
    (hc2 : eval (.Call (.Call (.Name (Str.ofString "_prepare_tag") p1) [e] [] p2) [.Constant .none k p3, .Name rowN p4] [] p5) env = (do callWith p5 (← eval (.Call (.Name (Str.ofString "_prepare_tag") p1) [e] [] p2) env) [] (backTo p5 (starEach [.Constant .none k p3, .Name rowN p4] env)) (backToKw p5 (keywordEach [] env))) := by rfl) :
    wpAny (model PG w) A (eval (.Call (.Call (.Name (Str.ofString "_prepare_tag") p1) [e] [] p2) [.Constant .none k p3, .Name rowN p4] [] p5) env) Q E s := by
  refine Call_ ?_ hc2
  refine callG (f := 28) G (by kernel_rfl) rfl rfl ?_ hk hl hg (by decide) he hc
  refine args_cons ?_ he
  refine wpAny_mono h (fun gv s₁ q => ?_) fun _ _ x => x
  obtain ⟨g, t, pass, ra, lo, hi, rt, m, rfl, C, G₁, hhi, LR, hel, hlo, hra, hL, FL, hm, q⟩ := q
  refine args_nil ⟨G₁, useSpec C ?_⟩
  rintro r s' ⟨h₂, tk₂, f, rfl, rfl, x₂, T₂, ⟨o, fd, ho, hdat⟩, sp⟩
  refine ⟨_, rfl, ?_⟩
  have n23 : ∀ b, 114 < b → ¬ At 23 b := fun b hb z => by rw [show b = 23 from z] at hb; exact absurd hb (by decide)
  have FL₂ := FL.ext x₂ (n23 _ hL)
  refine callWith_def (f := f) hdat ?_ he2
  refine args_cons (wpAny_Constant_none ?_) he2
  refine args_cons (he := he3) (Loc.name FL₂ hm (args_nil ⟨ho, ?_⟩) hk hlr hd)
  refine useSpec (sp lo hi ra rt tk₂ hhi LR.lt (LR.ext x₂ (n23 _ hra)) fun v t mm => ⟨(hel v t mm).1.ext x₂ fun b hb _ => n23 b (Nat.lt_of_lt_of_le hlo hb), (hel v t mm).2⟩) ?_
  rintro r s' ⟨a, g', h₃, gs, tk₃, Fr, rfl, rfl, x₃, hb, hM, hF, hF', hgen, F⟩
  exact ⟨_, rfl, q a g' h₃ gs tk₃ Fr hF hF' (x₂.non x₃) ((T₂.m.ext x₃ (by decide) (by decide) fun _ q => q.elim).mono hM) hb hgen F⟩
theorem forFeedZ {target : Expr} {it : Value} {body : List Stmt} {Lat Adv : Shared → Shared → Prop} {ps : List (Value → Prop)} {R : Result → Shared → Prop} (F : Feed w A it Lat Adv ps s) (J : Nat → Shared → Prop) (h0 : J 0 s) (hr : Lat s s)
    (step : ∀ i p y s₁ s₂, ps[i]? = some p → p y → J i s₁ → s₁.heap.objs.size ≤ s₂.heap.objs.size → Adv s₁ s₂ → wpAny (model PG w) A (assign target env y) (fun _ s₃ => wpAny (model PG w) A (execs body env) (fun f s₄ => f = .next ∧ J (i + 1) s₄ ∧ Lat s₂ s₄) NoE s₃) NoE s₂)
    (done : ∀ s₁ s₂, J ps.length s₁ → s₁.heap.objs.size ≤ s₂.heap.objs.size → Adv s₁ s₂ → R (.ok .next) s₂) (ht : ∀ v, letOwnedTupleGo target it v = pure () := by intro _; rfl) :
    codeAny (model PG w) A (.forLoop target it body [] env) R s := by
  refine codeAny_forLoop (fun n s' => ∃ i s₀, n = ps.length - i ∧ i ≤ ps.length ∧ J i s' ∧ Lat s₀ s' ∧ Feed w A it Lat Adv (ps.drop i) s₀) ?_ (ps.length - 0) ⟨0, s, rfl, Nat.zero_le _, h0, hr, F⟩ ht
  rintro n s₁ ⟨i, s₀, rfl, hi, hJ, hL, hF⟩
  cases hd : ps.drop i with
  | nil =>
    rw [hd] at hF
    have e : i = ps.length := Nat.le_antisymm hi (by simpa using hd)
    refine noE (wpAny_with_size (wpAny_mono (hF s₁ hL) (fun o s₂ q hz => ?_) fun _ _ q => q))
    obtain ⟨rfl, ha⟩ := q
    exact wpAny_execs_nil (done s₁ s₂ (e ▸ hJ) hz ha)
  | cons p qs =>
    rw [hd] at hF
    have hlt : i < ps.length := Nat.lt_of_not_le fun q => by rw [List.drop_eq_nil_of_le q] at hd; cases hd
    have hq : qs = ps.drop (i + 1) := by rw [List.drop_eq_getElem_cons hlt] at hd; cases hd; rfl
    have hp : ps[i]? = some p := by rw [List.drop_eq_getElem_cons hlt] at hd; cases hd; exact List.getElem?_eq_getElem hlt
    refine noE (wpAny_with_size (wpAny_mono (hF s₁ hL) (fun o s₂ q hz => ?_) fun _ _ q => q))
    obtain ⟨⟨y, rfl, hy⟩, ha, hf⟩ := q
    refine noE (wpAny_mono (step i p y s₁ s₂ hp hy hJ hz ha) (fun _ s₃ q => noE (wpAny_mono q (fun f s₄ q => ?_) fun _ _ q => q)) fun _ _ q => q)
    obtain ⟨rfl, hJ', hL'⟩ := q
    exact ⟨ps.length - (i + 1), by omega, i + 1, s₂, rfl, hlt, hJ', hL', hq ▸ hf⟩
/- a loop over such a feed -/
theorem genLoop {it : Value} {lo hi ra N N' Fr : Nat} {target : Expr} {ys : List Value} {body : List Stmt} {R : Result → Shared → Prop} (P : Nat → Shared → Prop)
    (F : Feed w A it (LatG lo hi ra N N') (AdvG Fr N) (eqs ys) s) (hFr : N ≤ Fr) (h0 : P 0 s)
    (st : ∀ i s h gs tk, P i s → s.heap.objs.size ≤ h.objs.size → Ext (Vn Fr N s.heap) s.heap h → (AllBare s.gens → AllBare gs) → P i { s with heap := h, gens := gs, toks := tk })
    (step : ∀ i v s, ys[i]? = some v → P i s → wpAny (model PG w) A (assign target env v) (fun _ s₃ => wpAny (model PG w) A (execs body env) (fun f s₄ => f = .next ∧ P (i + 1) s₄ ∧ Ext (Wr lo hi ra N N' s.heap) s.heap s₄.heap ∧ s₄.gens = s.gens) NoE s₃) NoE s)
    (done : ∀ s, P ys.length s → R (.ok .next) s) (ht : ∀ v, letOwnedTupleGo target it v = pure () := by intro _; rfl) :
    codeAny (model PG w) A (.forLoop target it body [] env) R s := by
  refine forFeedZ F P h0 ⟨Ext.refl _ _, rfl⟩ (fun i p y s₁ s₂ hp hy hP hz hA => ?_) (fun s₁ s₂ hP hz hA => ?_) ht
  · obtain ⟨h', gs, tk, rfl, x, hb⟩ := hA
    obtain ⟨v, hv, rfl⟩ : ∃ v, ys[i]? = some v ∧ (fun z => z = v) = p := by
      rw [List.getElem?_map] at hp
      cases e : ys[i]? with
      | none => rw [e] at hp; cases hp
      | some v => rw [e] at hp; exact ⟨v, rfl, Option.some.inj hp⟩
    have hy' : y = v := hy
    subst hy'
    exact step i y _ hv (st i s₁ h' gs tk hP hz x hb)
  · obtain ⟨h', gs, tk, rfl, x, hb⟩ := hA
    have hP' := st _ s₁ h' gs tk hP hz x hb
    rw [List.length_map] at hP'
    exact done _ hP'
end
/- octets -/
noncomputable def BV (v : Value) (x : Str) : Prop := ∃ t, v = .bytes (octs x) t
noncomputable def PV (pv : List Value) : Prop := All2 BV pv wordsS
theorem words_apart : ∀ i, i < 6 → ∀ j, j < 6 → (octs (wordsS.getD i (Str.ofString ""))).toList = (octs (wordsS.getD j (Str.ofString ""))).toList → i = j := by decide +kernel
noncomputable def isB (b : Array UInt8) : Value → Bool
  | .bytes c _ => decide (c.toList = b.toList)
  | _ => false
theorem eqg_bytes (b c : Array UInt8) (t u : Tok) : MeetsSeq.EqGives (.bytes b t) (.bytes c u) (decide (b.toList = c.toList)) := fun _ _ _ _ _ _ h => eqBool_bytes h
section
variable {w : World} {A : Around} {E : Value → Shared → Prop} {s : Shared} {env : Env} {mg mb : Str → Option Value}
inductive Ix2 [Bs] (s₁ : Shared) (l : Addr) (v : Value) (Q : Value → Shared → Prop) : Prop
  | mk (pv : List Value) (j : Nat) (e0 : Ls s₁.heap l pv) (e1 : PV pv) (e2 : j < 6) (e3 : (∃ t, v = .bytes (octs (wordsS.getD j (Str.ofString ""))) t)) (e4 : ∀ t tk, Q (.int j t) { s₁ with toks := tk }) : Ix2 s₁ l v Q
theorem indexB {pos : Pos} {l : Addr} {x : Sem Value} {Q : Value → Shared → Prop}
    (h : wpAny (model PG w) A x (fun v s₁ => Ix2 s₁ l v Q) E s) :
    wpAny (model PG w) A (callWith pos (.builtin "list.index") [.ref l] [(false, x)] []) Q E s := by
  refine P.index_list (wpAny_mono h (fun v s₁ q => ?_) fun _ _ x => x)
  obtain ⟨pv, j, ⟨n, hl⟩, hp, hj, ⟨t, rfl⟩, hq⟩ := q
  have hlen : pv.length = 6 := hp.1
  have at_ : ∀ i, i < 6 → ∃ u, pv[i]? = some (.bytes (octs (wordsS.getD i (Str.ofString ""))) u) := fun i hi => by
    obtain ⟨z, hz, rfl, _⟩ := wordsAt hi
    obtain ⟨v, hv, u, rfl⟩ := hp.at hz
    exact ⟨u, hv⟩
  have get : ∀ i (hi : i < pv.toArray.size), ∃ u, pv.toArray[i] = .bytes (octs (wordsS.getD i (Str.ofString ""))) u := fun i hi => by
    have hi' : i < pv.length := by simpa using hi
    obtain ⟨u, hu⟩ := at_ i (by omega)
    rw [List.getElem?_eq_getElem hi'] at hu
    exact ⟨u, by simpa using Option.some.inj hu⟩
  refine ⟨pv.toArray, n, isB (octs (wordsS.getD j (Str.ofString ""))), j, by simp; omega, hl, fun y hy => ?_, by omega, ?_, fun m hm hlt => ?_, hq _ _⟩
  · obtain ⟨i, hi, rfl⟩ := Array.mem_iff_getElem.mp hy
    obtain ⟨u, hu⟩ := get i hi
    rw [hu]
    exact eqg_bytes _ _ _ _
  · obtain ⟨u, hu⟩ := get j (by simp; omega)
    rw [hu]; simp [isB]
  · obtain ⟨u, hu⟩ := get m hm
    rw [hu]
    simp only [isB, decide_eq_false_iff_not]
    intro e
    exact absurd (words_apart m (by omega) j hj e) (by omega)
inductive Ix1 [Bs] (ov : Value) (s₁ : Shared) (w : World) (A : Around) (e : Expr) (env : Env) (Q : Value → Shared → Prop) (E : Value → Shared → Prop) : Prop
  | mk (l : Addr) (ys : List Value) (e0 : ov = .ref l) (e1 : Ls s₁.heap l ys) (e2 : wpAny (model PG w) A (eval e env) (fun v s₂ => Ix2 s₂ l v Q) E s₁) : Ix1 ov s₁ w A e env Q E
theorem index_ {o e : Expr} {apos cpos : Pos} {Q : Value → Shared → Prop}
    (h : wpAny (model PG w) A (eval o env) (fun ov s₁ => Ix1 ov s₁ w A e env Q E) E s)
    (hbase : attributeBase o (Str.ofString "index") env (eval o env) = eval o env := by rfl) (hs : starEach [e] env = [(false, eval e env)] := by rfl) (hline : (apos.endLine == cpos.line) = true := by rfl) :
    wpAny (model PG w) A (eval (.Call (.Attribute o (Str.ofString "index") apos) [e] [] cpos) env) Q E s := by
  refine Call_method1 hbase hs hline (wpAny_mono h (fun ov s₁ h₁ => ?_) fun _ _ x => x)
  obtain ⟨l, ys, rfl, hl, h₁⟩ := h₁
  exact listMeth PySem.F.slot_list_index PySem.F.type_list_index hl (indexB h₁)
inductive CutB1 [Bs] (o : Value) (vl : Value) (vu : Value) (s₃ : Shared) (Q : Value → Shared → Prop) : Prop
  | mk (b : Array UInt8) (t : Tok) (lo hi : Option Int) (e0 : o = .bytes b t) (e1 : IsPart vl lo) (e2 : IsPart vu hi) (e3 : b.size < 1000) (e4 : ∀ h' t' tk, Ext Non s₃.heap h' → Q (.bytes (KBy.picked b lo hi) t') { s₃ with heap := h', toks := tk }) : CutB1 o vl vu s₃ Q
theorem cutB {value : Expr} {lower upper : Option Expr} {p pos : Pos} {Q : Value → Shared → Prop}
    (h : wpAny (model PG w) A (eval value env) (fun o s₁ => wpAny (model PG w) A (evalPart lower env) (fun vl s₂ => wpAny (model PG w) A (evalPart upper env) (fun vu s₃ =>
      CutB1 o vl vu s₃ Q) E s₂) E s₁) E s)
    (ht : ∀ o r, letTemporaryGo value o r = pure () := by intro _ _; rfl) : wpAny (model PG w) A (eval (.Subscript value (.Slice lower upper none p) pos) env) Q E s := by
  refine wpAny_Subscript_Slice (T := "bytes") PySem.W.FB.slot_bytes_getitem.lookup (wpAny_mono h (fun o s₁ h₁ => wpAny_Slice (wpAny_mono h₁ (fun vl s₂ h₂ => wpAny_mono h₂ (fun vu s₃ h₃ => ?_) fun _ _ e => e) fun _ _ e => e)) fun _ _ e => e) ht
  obtain ⟨b, t, lo, hi, rfl, pl, pu, hb, hQ⟩ := h₃
  rw [evalPart_none]
  refine wpAny_pure ⟨typeIs_bytes _ _ _, getItem_meets (typeIs_bytes _ _ _) (by decide) PySem.W.FB.slot_bytes_getitem PySem.W.FB.entry_bytes_getitem (PySem.W.FB.args_bytes_getitem_2 _ _) (KBc.meets_slice2 b t _ pl pu)
    ⟨Heap.IsSliceOf.new _ _ _ _, Nat.le_trans (KBc.size_picked_le b lo hi) (by rw [sizeLine_eq]; omega), fun t' k => hQ _ _ _ (Ext.push _ _ _)⟩⟩
end
end Mine
end
section
open PySem PySem.W PyProof.Rows PySem.Calls PySem.Builtin
set_option maxHeartbeats 8000000
namespace Mine
variable [Bs]
theorem All2.filter {α β : Type} {R : α → β → Prop} {p : α → Bool} {q : β → Bool} : ∀ {xs : List α} {ys : List β}, All2 R xs ys → (∀ x y, R x y → p x = q y) → All2 R (xs.filter p) (ys.filter q)
  | [], [], _, _ => .nil
  | [], _ :: _, a, _ => by have := a.1; simp at this
  | _ :: _, [], a, _ => by have := a.1; simp at this
  | x :: xs, y :: ys, a, h => by
    have h1 : R x y := a.2 0 x y rfl rfl
    have h2 : All2 R xs ys := ⟨by have := a.1; simpa using this, fun i u v hu hv => a.2 (i + 1) u v (by simpa using hu) (by simpa using hv)⟩
    rw [List.filter_cons, List.filter_cons, h x y h1]
    split
    · exact .cons h1 (h2.filter h)
    · exact h2.filter h
theorem All2.map1 {α β γ : Type} {R : β → γ → Prop} {f : α → β} {xs : List α} {ys : List γ} (a : All2 (fun x y => R (f x) y) xs ys) : All2 R (xs.map f) ys := by
  refine ⟨by rw [List.length_map]; exact a.1, fun i x y hx hy => ?_⟩
  rw [List.getElem?_map] at hx
  cases e : xs[i]? with
  | none => rw [e] at hx; cases hx
  | some z => rw [e] at hx; cases hx; exact a.2 i z y e hy
/- octets of a name -/
noncomputable def plainS (n : Str) : Bool := n.cps.toList.all fun c => decide (c < 128)
noncomputable def OV (v : Value) (n : Str) : Prop := if plainS n = true then ∃ t, v = .bytes (octs n) t else ∃ t, v = .str refusal t
noncomputable def startsPlain (n : Str) : Bool := match n.cps.toList with | [] => false | a :: _ => decide (a < 128)
theorem bad_split : ∀ l : List Nat, l.all (fun c => decide (c < 128)) = false → ∃ pre c post, l = pre ++ c :: post ∧ (∀ x ∈ pre, x < 128) ∧ 128 ≤ c
  | [], h => by simp at h
  | a :: l, h => by
    by_cases q : a < 128
    · have h' : l.all (fun c => decide (c < 128)) = false := by
        rw [List.all_cons, decide_eq_true q, Bool.true_and] at h; exact h
      obtain ⟨pre, c, post, rfl, hp, hc⟩ := bad_split l h'
      exact ⟨a :: pre, c, post, rfl, fun x hx => (by rcases List.mem_cons.mp hx with rfl | hx; exact q; exact hp x hx), hc⟩
    · exact ⟨[], a, l, rfl, fun x hx => (nomatch hx), by omega⟩
inductive OcP [Bs] (r : Result) (s' : Shared) (s : Shared) (n : Str) : Prop
  | mk (h' : _) (tk : _) (v : _) (e0 : r = .ok (.ret v)) (e1 : s' = { s with heap := h', toks := tk }) (e2 : Ext Non s.heap h') (e3 : OV v n) : OcP r s' s n
theorem octets_spec {w : World} {mg mb : Str → Option Value} {A : Around} {s : Shared} {n : Str} {t : Tok} {outer : List Env} (G : Gd w mg mb s.heap) (R : Rm A 6) (hfr : A.frames = some outer) (FS : Fs s.heap outer) (hs : 114 < s.heap.objs.size) (hb : Bs.n ≤ s.heap.objs.size) (hl : n.cps.size < 1000) (h0 : startsPlain n = true) :
    codeAny (model PG w) A (.call (.ref 85) ⟨[.str n t], []⟩) (fun r s' => OcP r s' s n) s := by
  cases hp : plainS n with
  | true =>
    refine codeAny_mono (octets_ok G R (fun c hc => ?_) hl) fun r s' q => ?_
    · exact of_decide_eq_true (List.all_eq_true.mp hp c hc)
    · obtain ⟨h', tk, t', rfl, rfl, x⟩ := q
      exact ⟨h', tk, _, rfl, rfl, x, by unfold OV; rw [if_pos hp]; exact ⟨t', rfl⟩⟩
  | false =>
    obtain ⟨pre, c, post, e, hpre, hc⟩ := bad_split _ hp
    refine codeAny_mono (octets_bad G R hfr FS hs hb e hpre (fun z => ?_) hc hl) fun r s' q => ?_
    · subst z
      unfold startsPlain at h0
      rw [e] at h0
      have : c < 128 := of_decide_eq_true h0
      omega
    · obtain ⟨h', tk, t', rfl, rfl, x⟩ := q
      exact ⟨h', tk, _, rfl, rfl, x, by unfold OV; rw [if_neg (by rw [hp]; exact Bool.false_ne_true)]; exact ⟨t', rfl⟩⟩
/- the tags, told by their parts -/
noncomputable def tagB (b7 b6 : Bool) (s t : Nat) : Str := Str.ofString "{" ++ (mark b7 ++ wordsS.getD s (Str.ofString "")) ++ Str.ofString "}" ++ (mark b6 ++ wordsS.getD t (Str.ofString ""))
theorem tagS_eq (x : Int) : tagS x = tagB (kindI x == 7) (kindI x == 6) (srcI x) (tgtI x) := rfl
noncomputable def wd (k : Nat) : Str := wordsS.getD k (Str.ofString "")
noncomputable def outG (k : Nat) : Str := Txt.slice (Str.ofString "{" ++ wd k ++ Str.ofString "}*") none (some (-1))
noncomputable def pass4S (ns x : Str) : Bool := (Txt.slice x none (some (ns.length : Int))).cps.toList == ns.cps.toList
theorem pass4_str (ns x : Str) (u : Tok) : pass4 ns (.str x u) = pass4S ns x := rfl
theorem out_word : ∀ k, k < 6 → ∀ i, i < 6 → pass4S (outG k) (wd i) = false := by decide +kernel
theorem out_tag : ∀ k, k < 6 → ∀ i, i < 6 → ∀ j, j < 6 → ∀ b : Bool, pass4S (outG k) (tagB false b i j) = (i == k) ∧ pass4S (outG k) (tagB true b i j) = false := by decide +kernel
noncomputable def inT (k : Nat) : Str := Txt.slice (Str.ofString "{*}" ++ wd k) (some 3) none
noncomputable def inX (k : Nat) : Str := Txt.slice (Str.ofString "{*}" ++ wd k) (some 2) none
noncomputable def pass3S (tag suffix x : Str) : Bool := (x.cps.toList == tag.cps.toList) || ((Txt.slice x (some (-(suffix.length : Int))) none).cps.toList == suffix.cps.toList)
theorem in_word : ∀ k, k < 6 → ∀ i, i < 6 → pass3S (inT k) (inX k) (wd i) = (i == k) := by decide +kernel
theorem in_tag : ∀ k, k < 6 → ∀ i, i < 6 → ∀ j, j < 6 → ∀ b : Bool, pass3S (inT k) (inX k) (tagB b false i j) = (j == k) ∧ pass3S (inT k) (inX k) (tagB b true i j) = false := by decide +kernel
theorem plain_tag : ∀ i, i < 6 → ∀ j, j < 6 → ∀ a b : Bool, plainS (tagB a b i j) = (!a && !b) ∧ startsPlain (tagB a b i j) = true ∧ (tagB a b i j).cps.size < 100 := by decide +kernel
theorem plain_word : ∀ i, i < 6 → plainS (wd i) = true ∧ startsPlain (wd i) = true ∧ (wd i).cps.size < 100 ∧ ((octs (wd i)).toList.headD 0).toNat ≠ 123 ∧ 0 < (octs (wd i)).size := by decide +kernel
theorem cut_tgt : ∀ i, i < 6 → ∀ j, j < 6 → KBy.picked (octs (tagB false false i j)) (some ((wd i).length + 2 : Int)) none = octs (wd j) := by decide +kernel
theorem cut_src : ∀ i, i < 6 → ∀ j, j < 6 → KBy.picked (octs (tagB false false i j)) (some 1) (some ((octs (tagB false false i j)).size - (wd j).length - 1 : Int)) = octs (wd i) ∧ ((octs (tagB false false i j)).toList.headD 0).toNat = 123 ∧ 0 < (octs (tagB false false i j)).size ∧ (octs (tagB false false i j)).size < 100 := by decide +kernel
end Mine
end
section
open PySem PySem.W PyProof.Rows PySem.Calls PySem.Builtin
set_option maxHeartbeats 8000000
namespace Mine
variable [Bs]
noncomputable def IVN (v : Value) (n : Nat) : Prop := ∃ t, v = .int (n : Int) t
noncomputable def LN (h : Heap) (l : Addr) (ks : List Nat) : Prop := ∃ vs, Ls h l vs ∧ All2 IVN vs ks
theorem LN.ext {X : Addr → Prop} {h h' : Heap} {l : Addr} {ks : List Nat} (x : LN h l ks) (e : Ext X h h') (n : ¬ X l) : LN h' l ks := let ⟨vs, a, b⟩ := x; ⟨vs, a.ext e n, b⟩
noncomputable def Xout (xs : List Int) (k : Nat) : List Int := xs.filter fun x => srcI x == k && !(kindI x == 7)
noncomputable def Xin (xs : List Int) (k : Nat) : List Int := xs.filter fun x => tgtI x == k && !(kindI x == 6)
noncomputable def outM (xs : List Int) (k : Nat) : List Nat := ((Xout xs k).filter fun x => !(kindI x == 6)).map tgtI
noncomputable def inM (xs : List Int) (k : Nat) : List Nat := ((Xin xs k).filter fun x => !(kindI x == 7)).map srcI
/- a row: elements with their tags -/
noncomputable def RT (rt : List (Value × Value)) (ns : List Int) : Prop := All2 (fun (p : Value × Value) o => TV p.2 o) rt (tagsOf ns)
noncomputable def opt (f : Str → Bool) : Option Str → Bool
  | none => false
  | some x => f x
theorem rt_sel {rt : List (Value × Value)} {ns : List Int} {pass : Value → Bool} {f : Str → Bool} (r : RT rt ns) (h0 : pass .none = false) (hf : ∀ x u, pass (.str x u) = f x) :
    All2 (fun v x => ∃ u, (v, Value.str x u) ∈ rt) (sel pass rt) ((wordsS.filter f) ++ ((xsOf ns).filter fun x => f (tagS x)).map tagS) := by
  have a : All2 (fun (p : Value × Value) o => p ∈ rt ∧ TV p.2 o) rt (tagsOf ns) := ⟨r.1, fun i x y hx hy => ⟨List.mem_of_getElem? hx, r.2 i x y hx hy⟩⟩
  have b := a.filter (p := fun x => pass x.2) (q := opt f) fun x y h => by
    obtain ⟨_, h⟩ := h
    cases y with
    | none => rw [show x.2 = .none from h]; exact h0
    | some z => obtain ⟨u, h⟩ := h; rw [h]; exact hf z u
  have e : (tagsOf ns).filter (opt f) = ((wordsS.filter f) ++ ((xsOf ns).filter fun x => f (tagS x)).map tagS).map some := by
    unfold tagsOf
    rw [List.filter_cons, if_neg (by exact Bool.false_ne_true), List.filter_append, List.filter_map, List.filter_map, List.map_append, List.map_map]
    rfl
  rw [e] at b
  refine ⟨by rw [sel, List.length_map, b.1, List.length_map], fun i x y hx hy => ?_⟩
  rw [sel, List.getElem?_map] at hx
  cases e : (rt.filter fun x => pass x.2)[i]? with
  | none => rw [e] at hx; cases hx
  | some p =>
    rw [e] at hx; cases hx
    obtain ⟨m, u, h⟩ := b.2 i p (some y) e (by rw [List.getElem?_map, hy]; rfl)
    exact ⟨u, by rw [← h]; exact m⟩
theorem filter_none {α : Type} {p : α → Bool} {xs : List α} (h : ∀ x ∈ xs, p x = false) : xs.filter p = [] := by
  rw [List.filter_eq_nil_iff]; intro x hx; rw [h x hx]; exact Bool.false_ne_true
theorem words_idx {x : Str} (h : x ∈ wordsS) : ∃ i, i < 6 ∧ x = wd i := by
  obtain ⟨i, hi, rfl⟩ := List.mem_iff_getElem.mp h
  exact ⟨i, hi, by simp [wd, List.getD, List.getElem?_eq_getElem hi]⟩
theorem sel_out {rt : List (Value × Value)} {ns : List Int} {k : Nat} (r : RT rt ns) (hk : k < 6) : All2 (fun v x => ∃ u, (v, Value.str (tagS x) u) ∈ rt) (sel (pass4 (outG k)) rt) (Xout (xsOf ns) k) := by
  have a := rt_sel r (pass := pass4 (outG k)) (f := pass4S (outG k)) rfl fun x u => rfl
  rw [filter_none fun x hx => by obtain ⟨i, hi, rfl⟩ := words_idx hx; exact out_word k hk i hi, List.nil_append] at a
  have e : (xsOf ns).filter (fun x => pass4S (outG k) (tagS x)) = Xout (xsOf ns) k := by
    refine List.filter_congr fun x _ => ?_
    rw [tagS_eq]
    have z := out_tag k hk (srcI x) (srcI_lt x) (tgtI x) (tgtI_lt x) (kindI x == 6)
    cases kindI x == 7 with
    | true => rw [z.2]; simp
    | false => rw [z.1]; simp
  rw [e] at a
  refine ⟨by rw [a.1, List.length_map], fun i v x hv hx => a.2 i v (tagS x) hv (by rw [List.getElem?_map, hx]; rfl)⟩
theorem in_words : ∀ k, k < 6 → wordsS.filter (pass3S (inT k) (inX k)) = [wd k] := by decide +kernel
theorem sel_in {rt : List (Value × Value)} {ns : List Int} {k : Nat} (r : RT rt ns) (hk : k < 6) : All2 (fun v x => ∃ u, (v, Value.str x u) ∈ rt) (sel (pass3 (inT k) (inX k)) rt) (wd k :: (Xin (xsOf ns) k).map tagS) := by
  have a := rt_sel r (pass := pass3 (inT k) (inX k)) (f := pass3S (inT k) (inX k)) rfl fun x u => rfl
  have e : (xsOf ns).filter (fun x => pass3S (inT k) (inX k) (tagS x)) = Xin (xsOf ns) k := by
    refine List.filter_congr fun x _ => ?_
    rw [tagS_eq]
    have z := in_tag k hk (srcI x) (srcI_lt x) (tgtI x) (tgtI_lt x) (kindI x == 7)
    cases kindI x == 6 with
    | true => rw [z.2]; simp
    | false => rw [z.1]; simp
  have e2 : wordsS.filter (pass3S (inT k) (inX k)) = [wd k] := in_words k hk
  rw [e, e2] at a
  exact a
/- what a call may touch, seen from its start -/
noncomputable abbrev Yx (n : Nat) : Addr → Prop := fun b => n ≤ b ∨ b = 23
theorem Ext.y23 {h h' : Heap} (x : Ext (Yx h.objs.size) h h') : Ext (At 23) h h' := fun a o e n => x a o e fun q => by
  rcases q with q | q
  · exact absurd (Heap.lt_size e) (Nat.not_lt.mpr q)
  · exact n q
theorem Gd.y {w : World} {mg mb : Str → Option Value} {h h' : Heap} {n : Nat} (G : Gd w mg mb h) (x : Ext (Yx n) h h') (hn : 114 < n) : Gd w mg mb h' := G.ext x fun b q => by
  rcases q with q | q
  · exact .inl (Nat.lt_of_lt_of_le hn q)
  · exact .inr (.inl q)
theorem Fs.y {h h' : Heap} {l : List Env} {n : Nat} (f : Fs h l) (x : Ext (Yx n) h h') (hn : h.objs.size ≤ n) : Fs h' l := f.ext x fun e he L hL q => by
  obtain ⟨_, L', o, es, m, e1, hi, e2, _⟩ := f e he
  rw [hL] at e1; cases e1
  rcases q with q | q
  · exact absurd (Heap.lt_size e2) (Nat.not_lt.mpr (Nat.le_trans hn q))
  · have : 114 < L := hi.1
    rw [q] at this; exact absurd this (by decide)
theorem El.y {h h' : Heap} {lo hi n : Nat} {v t : Value} (x : El h lo hi v t) (e : Ext (Yx n) h h') (hn : hi ≤ n) (hlo : 114 < lo) : El h' lo hi v t := x.ext e fun b a c q => by
  rcases q with q | q
  · exact absurd (Nat.lt_of_lt_of_le c hn) (Nat.not_lt.mpr q)
  · rw [q] at a; exact absurd (Nat.lt_of_lt_of_le hlo a) (by decide)
theorem nY {n a : Nat} (h : a < n) (h2 : 114 < a) : ¬ Yx n a := fun q => by
  rcases q with q | q
  · exact absurd h (Nat.not_lt.mpr q)
  · rw [q] at h2; exact absurd h2 (by decide)
end Mine
end
section
open PySem PySem.W PyProof.Rows PySem.Calls PySem.Builtin
set_option maxHeartbeats 8000000
namespace Mine
variable [Bs]
theorem out_form : ∀ k, k < 6 → (((Str.ofString "{" ++ wd k ++ Str.ofString "}*").cps.toList == (Str.ofString "{*}*").cps.toList) = false ∧ ((Str.ofString "{" ++ wd k ++ Str.ofString "}*").cps.toList == (Str.ofString "{}*").cps.toList) = false ∧
    ((Txt.slice (Str.ofString "{" ++ wd k ++ Str.ofString "}*") none (some 3)).cps.toList == (Str.ofString "{*}").cps.toList) = false ∧ ((Txt.slice (Str.ofString "{" ++ wd k ++ Str.ofString "}*") (some (-2)) none).cps.toList == (Str.ofString "}*").cps.toList) = true) ∧
    (Str.ofString "{" ++ wd k ++ Str.ofString "}*").length < 1000 ∧ (wd k).length ≤ 3 := by decide +kernel
theorem wr_of {h : Heap} {lo hi ra N N' b : Nat} (h1 : 114 < b) (h2 : hi ≤ b) (h3 : ra < b) (h4 : b < N) (h5 : ¬ LI h b) : Wr lo hi ra N N' h b :=
  ⟨h1, fun z => absurd z.2 (Nat.not_lt.mpr h2), fun z => absurd h3 (by rw [z]; exact Nat.lt_irrefl _), fun z => absurd h4 (Nat.not_lt.mpr z.1), h5⟩
inductive AhP [Bs] (r : Result) (s' : Shared) (s : Shared) (ns : List Int) : Prop
  | mk (h' : _) (gs : _) (tk : _) (D : _) (es : _) (e0 : r = .ok (.ret (.ref D))) (e1 : s' = { s with heap := h', gens := gs, toks := tk }) (e2 : Ext (At 23) s.heap h') (e3 : (AllBare s.gens → AllBare gs)) (e4 : Tab h' 27 23 selQ) (e5 : s.heap.objs.size ≤ D) (e6 : Ls h' D es) (e7 : All2 (fun v k => ∃ l, v = .ref l ∧ s.heap.objs.size ≤ l ∧ LN h' l (outM (xsOf ns) k)) es (List.range 6)) : AhP r s' s ns
inductive AhI [Bs] (s' : Shared) (s : Shared) (D : Addr) (I : Addr) (ns : List Int) (i : Nat) (ra : Addr) (pl : Addr) : Prop
  | mk (h : _) (gs : _) (tk : _) (ds : _) (m : _) (e0 : s' = { s with heap := h, gens := gs, toks := tk }) (e1 : Ext (Yx s.heap.objs.size) s.heap h) (e2 : (AllBare s.gens → AllBare gs)) (e3 : Tab h 27 23 selQ) (e4 : Ls h D ds) (e5 : All2 (fun v k => ∃ l, v = .ref l ∧ I < l ∧ LN h l (outM (xsOf ns) k)) ds ((List.range 6).take i)) (e6 : Loc h s.heap.objs.size m) (e7 : I < h.objs.size) (e8 : m.lookup (Str.ofString "ahead") = some (.ref D)) (e9 : m.lookup (Str.ofString "row") = some (.ref ra)) (e10 : m.lookup (Str.ofString "places") = some (.ref pl)) : AhI s' s D I ns i ra pl
inductive AhJ [Bs] (s' : Shared) (s : Shared) (el : Addr) (h₃ : Heap) (Fr : Addr) (ns : List Int) (i : Nat) (j : Nat) (D : Addr) (ra : Addr) (pl : Addr) (u : Tok) : Prop
  | mk (h : _) (gs' : _) (tk : _) (es : _) (m' : _) (e0 : s' = { s with heap := h, gens := gs', toks := tk }) (e1 : Ext (Yx s.heap.objs.size) s.heap h) (e2 : Ext (fun b => b = s.heap.objs.size ∨ b = el ∨ b = 23) h₃ h) (e3 : (AllBare s.gens → AllBare gs')) (e4 : TabM h 27 23 selQ Fr) (e5 : Ls h el es) (e6 : All2 IVN es ((((Xout (xsOf ns) i).take j).filter fun x => !(kindI x == 6)).map tgtI)) (e7 : Loc h s.heap.objs.size m') (e8 : m'.lookup (Str.ofString "ahead") = some (.ref D)) (e9 : m'.lookup (Str.ofString "row") = some (.ref ra)) (e10 : m'.lookup (Str.ofString "places") = some (.ref pl)) (e11 : m'.lookup (Str.ofString "ends") = some (.ref el)) (e12 : m'.lookup (Str.ofString "word") = some (.str (wd i) u)) : AhJ s' s el h₃ Fr ns i j D ra pl u
theorem ahead_spec {w : World} {mg mb : Str → Option Value} {A : Around} {s : Shared} {wl pl ra : Addr} {wv pv : List Value} {rt : List (Value × Value)} {ns : List Int} {lo hi : Nat} {outer : List Env}
    (G : Gd w mg mb s.heap) (R : Rm A 9) (hfr : A.frames = some outer) (FS : Fs s.heap outer) (hs : 114 < s.heap.objs.size) (hbn : Bs.n ≤ s.heap.objs.size) (T : Tab s.heap 27 23 selQ) (hW : Ls s.heap wl wv) (hwv : All2 SV wv wordsS) (hP : Ls s.heap pl pv) (hpv : PV pv)
    (hR : Ls s.heap ra (rt.map (·.1))) (hel : ∀ v t, (v, t) ∈ rt → El s.heap lo hi v t ∧ Okt t) (hrt : RT rt ns) (hlo : 114 < lo) (hhi : hi ≤ s.heap.objs.size) (hw1 : 114 < wl) (hp1 : 114 < pl) (hr1 : 114 < ra) :
    codeAny (model PG w) A (.call (.ref 99) ⟨[.ref wl, .ref pl, .ref ra], []⟩) (fun r s' => AhP r s' s ns) s := by
  refine call_plain_ret R.d (G.k 99 _ rfl) rfl G.lim (codeRec_of G.k rfl) rfl (locs rfl) (fun h₁ F => ?_)
  refine hide fun Q0 hQ0 => ?_
  have FL : Loc h₁ s.heap.objs.size [(Str.ofString "row", .ref ra), (Str.ofString "places", .ref pl), (Str.ofString "words", .ref wl)] := F.ns
  have E₁ : Ext Non s.heap h₁ := Ext.of F.keep _
  clear F
  have sz1 : s.heap.objs.size < h₁.objs.size := FL.lt
  have hL : s.heap.objs.size = s.heap.objs.size := rfl
  have hLhi : 114 < s.heap.objs.size := hs
  have ltW := hW.lt
  have ltP := hP.lt
  have ltR := hR.lt
  refine wpAny_execs_cons ?_
  refine wpAny_Assign_Name ?_
  refine List_ ?_
  refine args_nil ?_
  refine newL (by decide) ?_
  intro D h₂ hD LD x₂
  refine Loc.store (FL.ext x₂ id) ?_
  intro h₃ FL₃ x₃
  have hD' : D = h₁.objs.size := hD
  have nDL : D ≠ s.heap.objs.size := by rw [hD']; exact Ne.symm (Nat.ne_of_lt sz1)
  have hDs : s.heap.objs.size ≤ D := by rw [hD']; exact Nat.le_of_lt sz1
  have LD₃ : Ls h₃ D [] := LD.ext x₃ nDL
  have y₃ : Ext (Yx s.heap.objs.size) s.heap h₃ := ((E₁.non x₂).mono fun _ q => q.elim).up x₃ fun b q => .inl (Nat.le_of_eq (show b = s.heap.objs.size from q).symm)
  refine wpAny_execs_cons ?_
  refine forL ?_ ?_
  exact R.handled
  refine Loc.name FL₃ rfl ?_
  refine ⟨wl, wv, rfl, hW.ext y₃ (nY ltW hw1), ?_⟩
  intro I h₄ hI x₄ LW₄ hI4
  have hIs : s.heap.objs.size ≤ I := by rw [hI]; exact Nat.le_of_lt FL₃.lt
  have nIL : s.heap.objs.size ≠ I := Nat.ne_of_lt (by rw [hI]; exact FL₃.lt)
  have nID : D ≠ I := Nat.ne_of_lt (by rw [hI]; exact LD₃.lt)
  have hDI : D < I := by rw [hI]; exact LD₃.lt
  have hLI : s.heap.objs.size < I := by rw [hI]; exact FL₃.lt
  refine ⟨fun i s' => AhI s' s D I ns i ra pl, ?_, ?_, ?_, ?_⟩
  · exact ⟨h₄, _, _, [], _, rfl, y₃.up x₄ fun _ q => q.elim, id, ((T.non E₁ (by decide) (by decide)).non x₂ (by decide) (by decide)).ext x₃ (by decide) (by decide) (fun b q => .inr ⟨by rw [show b = s.heap.objs.size from q]; exact hs, by rw [show b = s.heap.objs.size from q]; exact .ns (FL.ext x₂ id)⟩) |>.non x₄ (by decide) (by decide), LD₃.ext x₄ id, by rw [List.take_zero]; exact .nil, FL₃.ext x₄ id, hI4, rfl, rfl, rfl⟩
  · rintro i _ h tk0 ⟨h₀, gs, tk, ds, m, rfl, y₀, hb, T₀, LD₀, a2, F₀, hI0, m1, m2, m3⟩ nc hsz x
    exact ⟨h, gs, tk0, ds, m, rfl, y₀.up x (fun b q => .inl (by rw [show b = I from q]; exact hIs)), hb, T₀.ext x (by decide) (by decide) (fun b q => .inr ⟨by rw [show b = I from q]; exact Nat.lt_trans hs hLI, by rw [show b = I from q]; exact nc⟩), LD₀.ext x nID,
      a2.mono (fun v k ⟨l, e, q, r⟩ => ⟨l, e, q, r.ext x (Ne.symm (Nat.ne_of_lt q))⟩), F₀.ext x nIL, Nat.lt_of_lt_of_le hI0 hsz, m1, m2, m3⟩
  · rintro i v _ hiv ⟨h₀, gs, tk, ds, m, rfl, y₀, hb, T₀, LD₀, a2, F₀, hI0, m1, m2, m3⟩
    refine hideB fun Q1 hQ1 => ?_
    obtain ⟨wx, hwx, u, rfl⟩ := hwv.at' hiv
    have hi6 : i < 6 := (List.getElem?_eq_some_iff.mp hwx).1
    obtain ⟨wx', hwx', ewx, lwx⟩ := wordsAt hi6
    have ew : wx = wd i := by rw [hwx] at hwx'; cases hwx'; exact ewx
    subst ew
    clear ewx hwx' lwx
    obtain ⟨⟨f1, f2, f3, f4⟩, f5, f6⟩ := out_form i hi6
    have sel_ := sel_out hrt hi6
    have FSof : ∀ (h : Heap) (m : List (Str × Value)) (env : Env), Ext (Yx s.heap.objs.size) s.heap h → Loc h s.heap.objs.size m → env.frame = some s.heap.objs.size → env.scope.kind ≠ .module → Fs h (env :: outer) := fun h m env y F e1 e2 => Fs.cons (FS.y y (Nat.le_refl _)) e2 e1 hs hbn F
    have G₀ := G.y y₀ hs
    have lrange : (List.range 6)[i]? = some i := List.getElem?_range hi6
    refine wpAny_assign_Name ?_
    refine Loc.storeZ F₀ ?_
    intro h₁ F₁ x₁ z₁
    refine wpAny_execs_cons ?_
    refine wpAny_Assign_Name ?_
    refine List_ ?_
    refine args_nil ?_
    refine newL (by decide) ?_
    intro el h₂ hel' Lel x₂
    refine Loc.storeZ (F₁.ext x₂ id) ?_
    intro h₃ F₃ x₃ z₃
    have hel1 : el = h₁.objs.size := hel'
    have szel : h₀.objs.size ≤ el := by rw [hel1]; exact z₁
    have nelL : el ≠ s.heap.objs.size := Ne.symm (Nat.ne_of_lt (Nat.lt_of_lt_of_le F₀.lt szel))
    have hIel : I < el := Nat.lt_of_lt_of_le hI0 szel
    have hDel : D < el := Nat.lt_of_lt_of_le LD₀.lt szel
    have hel114 : 114 < el := Nat.lt_trans (Nat.lt_trans hs hLI) hIel
    have hsel : s.heap.objs.size ≤ el := Nat.le_of_lt (Nat.lt_trans hLI hIel)
    have Lel₃ : Ls h₃ el [] := Lel.ext x₃ nelL
    have x03 : Ext (At s.heap.objs.size) h₀ h₃ := (x₁.up x₂ fun _ q => q.elim).trans x₃
    have y₃ : Ext (Yx s.heap.objs.size) s.heap h₃ := y₀.up x03 fun b q => .inl (Nat.le_of_eq (show b = s.heap.objs.size from q).symm)
    have G₃ := G.y y₃ hs
    have T₃ : Tab h₃ 27 23 selQ := T₀.ext x03 (by decide) (by decide) fun b q => .inr ⟨by rw [show b = s.heap.objs.size from q]; exact hs, by rw [show b = s.heap.objs.size from q]; exact .ns F₀⟩
    have LN3 := F₃.lt
    have Lel3 := Lel₃.lt
    have R3 : ∀ v t, (v, t) ∈ rt → El h₃ lo hi v t ∧ Okt t := fun v t mm => ⟨(hel v t mm).1.y y₃ hhi hlo, (hel v t mm).2⟩
    have hRr : Ls h₃ ra (rt.map (·.1)) := hR.ext y₃ (nY ltR hr1)
    refine wpAny_execs_cons ?_
    refine For_ ?_
    refine evalSel G₃ ?_
    refine wpAny_BinOp ?_
    refine wpAny_BinOp ?_
    refine Constant_str ?_
    refine Loc.name F₃ (lkN lkE) ?_
    refine PyProof.Rows.add_str ?_ ?_
    rotate_left
    · exact small2 (m := 1) (by decide) f6
    intro t1 tk1
    refine Constant_str ?_
    refine PyProof.Rows.add_str ?_ ?_
    rotate_left
    · exact small2 (m := 1 + 3) (n := 2) (apl (m := 1) (by decide) f6) (by decide)
    intro t2 tk2
    refine ⟨_, _, _, ra, lo, hi, rt, _, rfl, prep4 (s := { s with heap := h₃, gens := _, toks := _ }) G₃ ((R.deeper _).le (by omega)) (Nat.lt_trans hs LN3) T₃ f5 f1 f2 f3 f4, G₃, Nat.le_trans hhi (Nat.le_of_lt LN3), hRr, R3, hlo, hr1, hs, F₃, lkN (lkN m2), ?_⟩
    intro a g' h₄ gs₄ tk₄ Fr hFr hFr' x₄ TM hb₄ hgen Fd
    refine wpAny_pyIter_gen hgen ?_
    have n23 : ∀ b, 114 < b → ¬ At 23 b := fun b hb z => by rw [show b = 23 from z] at hb; exact absurd hb (by decide)
    have hFr3 : h₃.objs.size ≤ Fr := hFr
    refine genLoop (fun j s' => AhJ s' s el h₃ Fr ns i j D ra pl u) Fd hFr3 ?_ ?_ ?_ ?_
    · refine ⟨h₄, gs₄, tk₄, [], _, rfl, y₃.up x₄ (fun b q => .inr q), x₄.mono (fun b q => .inr (.inr q)), fun b => hb₄ (hb b), TM, Lel₃.ext x₄ (n23 _ hel114), by rw [List.take_zero]; exact .nil, F₃.ext x₄ (n23 _ hs), lkN (lkN m1), lkN (lkN m2), lkN (lkN m3), lkE, lkN lkE⟩
    · rintro j _ h gs₅ tk₅ ⟨h₀', gs', tk', es, m', rfl, y', x', hb', TM', Les, ae, F', n1, n2, n3, n4, n5⟩ _ x hbb
      have xn : Ext (Nw h₃.objs.size) h₀' h := vnUp x hFr3
      refine ⟨h, gs₅, tk₅, es, m', rfl, y'.up xn (fun b q => .inl (Nat.le_trans (Nat.le_of_lt LN3) q)), x'.stN xn (Nat.le_refl _), fun b => hbb (hb' b), TM'.vn x (by decide) (by decide) (Nat.lt_trans hs LN3) hFr3 (Nat.le_refl _), Les.ext xn (Nat.not_le.mpr Lel3), ae, F'.ext xn (Nat.not_le.mpr LN3), n1, n2, n3, n4, n5⟩
    · rintro j v _ hj ⟨h₀', gs', tk', es, m', rfl, y', x', hb', TM', Les, ae, F', n1, n2, n3, n4, n5⟩
      refine hideB fun Q2 hQ2 => ?_
      obtain ⟨x, hx, ux, hmem⟩ := sel_.at' hj
      have hxm : x ∈ Xout (xsOf ns) i := List.mem_of_getElem? hx
      have hxp := (List.mem_filter.mp hxm).2
      rw [Bool.and_eq_true] at hxp
      have hsrc : srcI x = i := eq_of_beq hxp.1
      have hk7 : (kindI x == 7) = false := by have := hxp.2; revert this; cases kindI x == 7 <;> simp
      obtain ⟨p1, p2, p3⟩ := plain_tag (srcI x) (srcI_lt x) (tgtI x) (tgtI_lt x) (kindI x == 7) (kindI x == 6)
      rw [← tagS_eq] at p1 p2 p3
      have hjl : j < (Xout (xsOf ns) i).length := (List.getElem?_eq_some_iff.mp hx).1
      have tk1' : (Xout (xsOf ns) i).take (j + 1) = (Xout (xsOf ns) i).take j ++ [x] := by rw [List.take_succ, hx]; rfl
      have hes : es.length < 2 ^ 22 := by
        rw [ae.1, List.length_map]
        exact Nat.lt_of_le_of_lt (Nat.le_trans (List.length_filter_le _ _) (Nat.le_trans (List.length_take_le' _ _) (Nat.le_trans (List.length_filter_le _ _) (xsOf_len ns)))) (by decide)
      have G' := G.y y' hs
      have L' := F'.lt
      refine wpAny_assign_Name ?_
      refine Loc.storeZ F' ?_
      intro h₅ F₅ x₅ z₅
      have y₅ : Ext (Yx s.heap.objs.size) s.heap h₅ := y'.up x₅ fun b q => .inl (Nat.le_of_eq (show b = s.heap.objs.size from q).symm)
      have G₅ := G.y y₅ hs
      have El5 := (hel v _ hmem).1.y y₅ hhi hlo
      refine wpAny_execs_cons ?_
      refine wpAny_Assign_Name ?_
      refine callG (f := 85) G₅ (by kernel_rfl) rfl rfl ?_
      refine args_cons ?_
      refine Attribute_Name_ ?_
      refine Loc.name F₅ lkE ?_
      refine getTag El5 (hoOk (hel v _ hmem).2) ?_
      intro tk6
      refine args_nil ?_
      refine ⟨G₅, useSpec (octets_spec (s := { s with heap := h₅, gens := _, toks := _ }) G₅ ((R.deeper _).le (by omega)) (Around.frames_deeper hfr) (FSof h₅ _ _ y₅ F₅ rfl (by show ScopeKind.function ≠ ScopeKind.module; decide)) (Nat.lt_trans hs F₅.lt) (Nat.le_trans hbn (Nat.le_of_lt F₅.lt)) (Nat.lt_trans p3 (by decide)) p2) ?_⟩
      rintro r s' ⟨h₆, tk₇, ov, rfl, rfl, x₆, hov⟩
      refine ⟨_, rfl, ?_⟩
      refine Loc.storeZ (F₅.ext x₆ id) ?_
      intro h₇ F₇ x₇ z₇
      have e₇ : Ext (At s.heap.objs.size) h₀' h₇ := (x₅.up x₆ fun _ q => q.elim).trans x₇
      have y₇ : Ext (Yx s.heap.objs.size) s.heap h₇ := y'.up e₇ fun b q => .inl (Nat.le_of_eq (show b = s.heap.objs.size from q).symm)
      have x37 : Ext (fun b => b = s.heap.objs.size ∨ b = el ∨ b = 23) h₃ h₇ := x'.up e₇ fun b q => .inl q
      have G₇ := G.y y₇ hs
      have Les₇ := Les.ext e₇ nelL
      have TM₇ : TabM h₇ 27 23 selQ Fr := TM'.ext e₇ (by decide) (by decide) fun b q => .inr ⟨by rw [show b = s.heap.objs.size from q]; exact hs, .inl (by rw [show b = s.heap.objs.size from q]; exact .ns F')⟩
      have wrL : Wr lo hi ra h₃.objs.size h₄.objs.size h₀' s.heap.objs.size := wr_of hs hhi ltR LN3 (nsNLI F')
      have wrE : Wr lo hi ra h₃.objs.size h₄.objs.size h₀' el := wr_of hel114 (Nat.le_trans hhi hsel) (Nat.lt_of_lt_of_le ltR hsel) Lel3 (lsNLI Les)
      refine wpAny_execs_cons ?_
      refine wpAny_If ?_
      refine wpAny_isTrue_value ?_
      refine isinst_ G₇ ?_
      refine Loc.name F₇ lkE ?_
      refine Gd.built G₇ (nsIn_bytes _) boot_bytes' ?_
      unfold OV at hov
      rw [p1, hk7] at hov
      cases hk6 : kindI x == 6 with
      | true =>
        rw [hk6] at hov
        obtain ⟨t8, rfl⟩ := hov
        refine IsiPair.str_bytes ?_
        refine wpAny_truthy_bool ?_
        rw [if_neg Bool.false_ne_true]
        refine wpAny_execs_nil ?_
        refine wpAny_execs_nil ?_
        refine hQ2 _ _ ⟨rfl, ⟨h₇, _, _, es, _, rfl, y₇, x37, hb', TM₇, Les₇, ?_, F₇, lkN (lkN n1), lkN (lkN n2), lkN (lkN n3), lkN (lkN n4), lkN (lkN n5)⟩, e₇.mono fun b q => by rw [show b = s.heap.objs.size from q]; exact wrL, rfl⟩
        rw [tk1', List.filter_append, List.filter_cons, hk6]
        simpa using ae
      | false =>
        rw [hk6] at hov
        obtain ⟨t8, rfl⟩ := hov
        refine isi_bytes_bytes ?_
        refine wpAny_truthy_bool ?_
        rw [if_pos rfl]
        have tg : octs (tagS x) = octs (tagB false false (srcI x) (tgtI x)) := by rw [tagS_eq, hk6, hk7]
        have cut := cut_tgt (srcI x) (srcI_lt x) (tgtI x) (tgtI_lt x)
        rw [← tg, hsrc] at cut
        refine wpAny_execs_cons ?_
        refine appendS ?_
        refine Loc.name F₇ (lkN (lkN n4)) ?_
        refine ⟨el, es, rfl, Les₇, ?_⟩
        refine index_ ?_
        refine Loc.name F₇ (lkN (lkN n3)) ?_
        refine ⟨pl, pv, rfl, hP.ext y₇ (nY ltP hp1), ?_⟩
        refine cutB ?_
        refine Loc.name F₇ lkE ?_
        refine evalPart_some_step ?_
        refine wpAny_BinOp ?_
        refine lenS G₇ ?_
        refine Loc.name F₇ (lkN (lkN n5)) ?_
        refine ⟨wd i, u, rfl, Nat.lt_of_le_of_lt f6 (by decide), fun t9 tk9 => ?_⟩
        refine wpAny_Constant_int ?_
        refine P.add_int ?_
        refine partNo ?_
        refine ⟨octs (tagS x), t8, some ((wd i).length + 2 : Int), none, rfl, .int _ _, .none, ?_, fun h₈ t10 tk10 x₈ => ?_⟩
        · show ((tagS x).cps.map Nat.toUInt8).size < 1000
          rw [Array.size_map]; exact Nat.lt_trans p3 (by decide)
        have y₈ := y₇.up x₈ fun _ q => q.elim
        refine ⟨pv, tgtI x, hP.ext y₈ (nY ltP hp1), hpv, tgtI_lt x, ⟨t10, by rw [cut]; rfl⟩, fun t11 tk11 => ?_⟩
        refine ⟨es, Les₇.ext x₈ id, hes, fun h₉ Les₉ x₉ => ?_⟩
        refine wpAny_execs_nil ?_
        refine wpAny_execs_nil ?_
        have F₉ := (F₇.ext x₈ id).ext x₉ (Ne.symm nelL)
        have e79 : Ext (At el) h₇ h₉ := (x₈.mono fun _ q => q.elim).trans x₉
        have e₉ : Ext (fun b => b = s.heap.objs.size ∨ b = el) h₀' h₉ := (e₇.mono fun b q => .inl q).up e79 fun b q => .inr q
        refine hQ2 _ _ ⟨rfl, ⟨h₉, _, _, _, _, rfl, y₇.up e79 (fun b q => .inl (by rw [show b = el from q]; exact hsel)), x37.up e79 (fun b q => .inr (.inl q)), hb', TM₇.ext e79 (by decide) (by decide) (fun b q => .inr ⟨by rw [show b = el from q]; exact hel114, .inl (by rw [show b = el from q]; exact .ls Les₇)⟩), Les₉, ?_, F₉, lkN (lkN n1), lkN (lkN n2), lkN (lkN n3), lkN (lkN n4), lkN (lkN n5)⟩, e₉.mono fun b q => by rcases q with q | q <;> obtain rfl := q.symm; exact wrL; exact wrE, rfl⟩
        rw [tk1', List.filter_append, List.filter_cons, hk6, List.map_append]
        exact ae.append (.cons ⟨_, rfl⟩ .nil)
    · rintro _ ⟨h₀', gs', tk', es, m', rfl, y', x', hb', TM', Les, ae, F', n1, n2, n3, n4, n5⟩
      rw [show (sel (pass4 (Txt.slice (Str.ofString "{" ++ wd i ++ Str.ofString "}*") none (some (-1)))) rt).length = (Xout (xsOf ns) i).length from sel_.1, List.take_length] at ae
      have Dne : ¬ (D = s.heap.objs.size ∨ D = el ∨ D = 23) := fun q => by
        rcases q with q | q | q
        · exact nDL q
        · exact absurd hDel (by rw [q]; exact Nat.lt_irrefl _)
        · rw [q] at hDs; exact absurd hs (by omega)
      have LD' := ((LD₀.ext x03 nDL).ext x' Dne)
      have hlds : ds.length < 2 ^ 22 := by rw [a2.1]; exact Nat.lt_of_le_of_lt (List.length_take_le' _ _) (by decide)
      refine ⟨rfl, ?_⟩
      refine wpAny_execs_cons ?_
      refine appendS ?_
      refine Loc.name F' n1 ?_
      refine ⟨D, ds, rfl, LD', ?_⟩
      refine Loc.name F' n4 ?_
      refine ⟨ds, LD', hlds, fun h₆ LD₆ x₆ => ?_⟩
      refine wpAny_execs_nil ?_
      have e06 : Ext (fun b => b = s.heap.objs.size ∨ b = D ∨ b = 23) h₀ h₆ := ((x03.mono fun b q => .inl q).step x' fun b o e q => by
        rcases q with q | q | q
        · exact .inl q
        · exact absurd (Heap.lt_size e) (by rw [q]; exact Nat.not_lt.mpr szel)
        · exact .inr (.inr q)).up x₆ fun b q => .inr (.inl q)
      refine hQ1 _ _ ⟨rfl, ⟨h₆, _, _, _, _, rfl, y'.up x₆ (fun b q => .inl (by rw [show b = D from q]; exact hDs)), hb', (TM'.tab).ext x₆ (by decide) (by decide) (fun b q => .inr ⟨by rw [show b = D from q]; exact Nat.lt_of_lt_of_le hs hDs, by rw [show b = D from q]; exact .ls LD'⟩), LD₆, ?_, F'.ext x₆ (Ne.symm nDL), Nat.lt_trans hIel (Les.ext x₆ (Ne.symm (Nat.ne_of_lt hDel))).lt, n1, n2, n3⟩, e06.mono fun b q => ?_⟩
      · rw [List.take_succ, lrange]
        refine (a2.mono fun v k ⟨l, e, q, r⟩ => ⟨l, e, q, r.ext e06 fun z => ?_⟩).append (.cons ⟨el, rfl, hIel, es, Les.ext x₆ (Ne.symm (Nat.ne_of_lt hDel)), ae⟩ .nil)
        rcases z with z | z | z
        · exact absurd hLI (by rw [← z]; exact Nat.not_lt.mpr (Nat.le_of_lt q))
        · exact absurd hDI (by rw [← z]; exact Nat.not_lt.mpr (Nat.le_of_lt q))
        · rw [z] at q; exact absurd (Nat.lt_trans (Nat.lt_trans hs hLI) q) (by decide)
      · rcases q with q | q | q <;> obtain rfl := q.symm
        · exact ⟨nIL, Ne.symm (Nat.ne_of_lt ltW)⟩
        · exact ⟨nID, fun z => absurd ltW (by rw [← z]; exact Nat.not_lt.mpr hDs)⟩
        · exact ⟨fun z => absurd (Nat.lt_trans hs hLI) (by rw [← z]; decide), fun z => absurd hw1 (by rw [← z]; decide)⟩
  · rintro _ ⟨h₀, gs, tk, ds, m, rfl, y₀, hb, T₀, LD₀, a2, F₀, hI0, m1, m2, m3⟩
    refine wpAny_execs_cons ?_
    refine wpAny_Return_some ?_
    refine Loc.name F₀ m1 ?_
    refine hQ0 _ _ ⟨h₀, gs, tk, D, ds, rfl, rfl, y₀.y23, hb, T₀, hDs, LD₀, ?_⟩
    have hlen : wv.length = 6 := hwv.1
    rw [hlen] at a2
    exact a2.mono fun v k ⟨l, e, q, r⟩ => ⟨l, e, Nat.le_of_lt (Nat.lt_of_le_of_lt hIs q), r⟩
end Mine
end
section
open PySem PySem.W PyProof.Rows PySem.Calls PySem.Builtin
set_option maxHeartbeats 8000000
namespace Mine
variable [Bs]
/- a comprehension without conditions, over an iterator whose pulls change nothing but itself -/
inductive CkE [Bs] (s₅ : Shared) (s₂ : Shared) (h : Heap) (RR : Nat → Value → Heap → Prop) (i : Nat) (v : Value) : Prop
  | mk (h₅ : _) (tk₅ : _) (e0 : s₅ = { s₂ with heap := h₅, toks := tk₅ }) (e1 : Ext Non h h₅) (e2 : RR i v h₅) : CkE s₅ s₂ h RR i v
inductive CkJ [Bs] (s : Shared) (s₂ : Shared) (I : Addr) (ys : List Value) (i : Nat) (RR : Nat → Value → Heap → Prop) : Prop
  | mk (h : _) (tk : _) (e0 : s = { s₂ with heap := h, toks := tk }) (e1 : Ext (fun b => b = I) s₂.heap h) (e2 : ys.length = i) (e3 : ∀ n u, ys[n]? = some u → RR n u h) : CkJ s s₂ I ys i RR
theorem compOkE {w : World} {A : Around} {env : Env} {x : Str} {elt : Expr} {scope : Scope} {cl : List (Str × Addr)} {C D I : Addr} {Lat : Shared → Shared → Prop} {ps : List (Value → Prop)} {s₂ : Shared} {Fin : Shared → Prop} (RR : Nat → Value → Heap → Prop)
    (hI : I < s₂.heap.objs.size) (hD : D = s₂.heap.objs.size) (hC : C = s₂.heap.objs.size + 1)
    (lat : ∀ s s' : Shared, Ext (fun b => b = C ∨ b = D) s.heap s'.heap → Lat s s')
    (stab : ∀ i u h h', RR i u h → Ext (fun b => b = C ∨ b = D ∨ b = I) h h' → RR i u h')
    (step : ∀ i p y h tk m, ps[i]? = some p → p y → Ext (fun b => b = I) s₂.heap h → s₂.heap.objs.size + 1 < h.objs.size → h.Ns C m → m x = some y →
      wpAny (model PG w) A (eval elt (compEnvC scope cl C env)) (fun v s₅ => CkE s₅ s₂ h RR i v) NoE { s₂ with heap := h, toks := tk })
    (fin : ∀ ys h tk, Ext (fun b => b = I) s₂.heap h → Ls h D ys → ys.length = ps.length → (∀ n u, ys[n]? = some u → RR n u h) → (∃ m, h.Ns C m) → Fin { s₂ with heap := h, toks := tk })
    (hlen : ps.length < 2 ^ 20) : ∃ J, CompOk w A env x [] elt scope cl C D Lat (AdvL I) ps J s₂ Fin := by
  have nDI : D ≠ I := by rw [hD]; exact Ne.symm (Nat.ne_of_lt hI)
  have nCI : C ≠ I := by rw [hC]; exact Ne.symm (Nat.ne_of_lt (Nat.lt_succ_of_lt hI))
  have nDC : D ≠ C := by rw [hD, hC]; exact Nat.ne_of_lt (Nat.lt_succ_self _)
  have hid : ∀ {h h' : Heap} {Y : Addr → Prop}, Ext (fun b => b = I) s₂.heap h → Ext Y h h' → (∀ b, Y b → b = I ∨ b = C ∨ b = D) → Ext (fun b => b = I) s₂.heap h' := fun x y i => x.step y fun a o e z => by
    have := Heap.lt_size e
    rcases i a z with q | q | q
    · exact q
    · rw [q, hC] at this; exact absurd this (Nat.not_lt.mpr (Nat.le_succ _))
    · rw [q, hD] at this; exact absurd this (Nat.lt_irrefl _)
  refine ⟨fun i ys s => CkJ s s₂ I ys i RR, ?_, ?_, ?_, ?_⟩
  · rintro s s' ⟨h', tk, rfl, e⟩
    exact ⟨fun ys l => l.ext e nDI, fun m l => e.ns l nCI⟩
  · intro h tk e _ _
    exact ⟨⟨h, tk, rfl, e.mono fun _ q => q.elim, rfl, fun n u q => by simp at q⟩, lat _ _ (e.mono fun _ q => q.elim)⟩
  · rintro i p y ys _ _ hp hy ⟨h, tk, rfl, e, hl, hr⟩ ⟨h', tk', rfl, e'⟩ L3 _ h₃ tk₃ m nC mx e₃ LD
    have e3 : Ext (fun b => b = I) s₂.heap h₃ := hid (hid e e' fun b q => .inl q) e₃ fun b q => .inr (.inl q)
    show wpAny _ A (pure true) _ _ _
    refine wpAny_pure ?_
    rw [if_pos rfl]
    have szC : s₂.heap.objs.size + 1 < h₃.objs.size := by rw [← hC]; exact nC.lt
    refine wpAny_mono (step i p y h₃ tk₃ m hp hy e3 szC nC mx) (fun v s₅ q => ?_) fun _ _ q => q
    obtain ⟨h₅, tk₅, rfl, e₅, hv⟩ := q
    refine ⟨LD.ext e₅ id, ⟨m, e₅.ns nC id⟩, fun h₆ LD₆ e₆ => ⟨⟨h₆, tk₅, rfl, hid (hid e3 e₅ fun _ q => q.elim) e₆ fun b q => .inr (.inr q), by rw [List.length_append, hl]; rfl, fun n u hn => ?_⟩, lat _ _ ?_⟩⟩
    · have e06 : Ext (fun b => b = C ∨ b = D ∨ b = I) h h₆ := (((e'.mono fun b q => .inr (.inr q)).up e₃ fun b q => .inl q).up e₅ fun _ q => q.elim).up e₆ fun b q => .inr (.inl q)
      by_cases hni : n < ys.length
      · rw [List.getElem?_append_left hni] at hn
        exact stab _ _ _ _ (hr n u hn) e06
      · have hn' : n = ys.length := by
          have := (List.getElem?_eq_some_iff.mp hn).1
          rw [List.length_append, List.length_singleton] at this
          omega
        subst hn'
        rw [List.getElem?_append_right (Nat.le_refl _), Nat.sub_self] at hn
        cases hn
        rw [hl]
        exact stab _ _ _ _ hv (e₆.mono fun b q => .inr (.inl q))
    · exact ((e₃.mono fun b q => .inl q).up e₅ fun _ q => q.elim).up e₆ fun b q => .inr q
  · rintro ys _ _ ⟨h, tk, rfl, e, hl, hr⟩ ⟨h', tk', rfl, e'⟩ L3 mC
    exact fin ys h' tk' (hid e e' fun b q => .inl q) L3 hl (fun n u hn => stab _ _ _ _ (hr n u hn) (e'.mono fun b q => .inr (.inr q))) mC
section
variable {w : World} {A : Around} {E : Value → Shared → Prop} {s : Shared} {env : Env} {mg mb : Str → Option Value}
theorem boot_range : bootBuiltins (Str.ofString "range") = some (.type "range") := by kernel_rfl
theorem nsIn_range (p : Params) : nsIn (heapK p) mainGlobals (Str.ofString "range") = some none := by kernel_rfl
inductive Range1 [Bs] (v : Value) (s₁ : Shared) (Q : Value → Shared → Prop) : Prop
  | mk (N : Nat) (t : Tok) (e0 : v = .int (N : Nat) t) (e1 : ∀ r h' tk t u z, r = s₁.heap.objs.size → IsRange h' r 0 (N : Nat) 1 t u z → Ext Non s₁.heap h' → r < h'.objs.size → Q (.ref r) { s₁ with heap := h', toks := tk }) : Range1 v s₁ Q
theorem range_ {np cpos : Pos} {e : Expr} {Q : Value → Shared → Prop} (G : Gd w mg mb s.heap)
    (h : wpAny (model PG w) A (eval e env) (fun v s₁ => Range1 v s₁ Q) E s)
    (hk : env.scope.kind = .function := by rfl) (hl : env.kindOf (Str.ofString "range") = some .globalImplicit := by rfl) (hg : env.globals = mainGlobals := by rfl) (hb : env.builtins = builtinsNs := by rfl)
    (he : starEach [e] env = [(false, eval e env)] := by rfl) : wpAny (model PG w) A (eval (.Call (.Name (Str.ofString "range") np) [e] [] cpos) env) Q E s := by
  refine wpAny_Call_ofName (Gd.built G (nsIn_range _) boot_range ?_ (by decide) hk hl hg hb)
  rw [he]
  refine PyProof.Rows.callWith_type rfl (evalArgs_plain (spliced_cons (wpAny_mono h (fun v s₁ h₁ => spliced_nil ?_) fun _ _ x => x)))
  obtain ⟨N, t, rfl, hq⟩ := h₁
  exact call_range_1 (hq _ _ _ _ _ _ rfl (Heap.get?_push_size _ rfl) (Ext.push _ _ _) (by rw [Heap.size_push]; exact Nat.lt_succ_self _))
/- lists of numbers, nothing or lists -/
noncomputable def OVN (v : Value) : Option Nat → Prop
  | none => v = .none
  | some m => IVN v m
end
end Mine
end
section
open PySem PySem.W PyProof.Rows PySem.Calls PySem.Builtin
set_option maxHeartbeats 8000000
namespace Mine
end Mine
namespace Mine
/- heaps: who is in, and who stands first -/
theorem getElem?_set' {α : Type} (xs : List α) (i n : Nat) (a : α) : (xs.set i a)[n]? = if n = i then (if i < xs.length then some a else none) else xs[n]? := by
  rw [List.getElem?_set]
  by_cases h : n = i
  · subst h; simp
  · rw [if_neg (fun q => h q.symm), if_neg h]
theorem mem_swap {α : Type} {xs : List α} {i j : Nat} {a p z : α} (hi : i < xs.length) (hj : xs[j]? = some p) (hij : i ≠ j) : z ∈ (xs.set i p).set j a ↔ z ∈ xs.set i a := by
  have hjl : j < xs.length := (List.getElem?_eq_some_iff.mp hj).1
  simp only [List.mem_iff_getElem?]
  have e1 : ∀ n, ((xs.set i p).set j a)[n]? = if n = j then some a else if n = i then some p else xs[n]? := fun n => by
    rw [getElem?_set', List.length_set, if_pos hjl, getElem?_set', if_pos hi]
  have e2 : ∀ n, (xs.set i a)[n]? = if n = i then some a else xs[n]? := fun n => by rw [getElem?_set', if_pos hi]
  constructor
  · rintro ⟨n, hn⟩
    rw [e1] at hn
    by_cases h1 : n = j
    · rw [if_pos h1] at hn; exact ⟨i, by rw [e2, if_pos rfl]; exact hn⟩
    · rw [if_neg h1] at hn
      by_cases h2 : n = i
      · rw [if_pos h2] at hn; exact ⟨j, by rw [e2, if_neg (Ne.symm hij), hj]; exact hn⟩
      · rw [if_neg h2] at hn; exact ⟨n, by rw [e2, if_neg h2]; exact hn⟩
  · rintro ⟨n, hn⟩
    rw [e2] at hn
    by_cases h1 : n = i
    · rw [if_pos h1] at hn; exact ⟨j, by rw [e1, if_pos rfl]; exact hn⟩
    · rw [if_neg h1] at hn
      by_cases h2 : n = j
      · subst h2; rw [hj] at hn; exact ⟨i, by rw [e1, if_neg hij, if_pos rfl]; exact hn⟩
      · exact ⟨n, by rw [e1, if_neg h2, if_neg h1]; exact hn⟩
theorem sift_mem {α : Type} (lt : α → α → Bool) (st : Nat) (new : α) (xs : List α) (pos : Nat) (hp : pos < xs.length) (z : α) : z ∈ sift lt st new xs pos ↔ z ∈ xs.set pos new := by
  induction xs, pos using sift.induct lt st new with
  | case1 xs pos h p hc hl ih =>
    rw [sift, dif_pos h, hc]
    simp only [hl, if_true]
    have hq : (pos - 1) / 2 < xs.length := (List.getElem?_eq_some_iff.mp hc).1
    rw [ih (by rw [List.length_set]; exact hq)]
    exact mem_swap hp hc (by omega)
  | case2 xs pos h p hc hl => rw [sift, dif_pos h, hc]; simp only [hl, if_false]; exact Iff.rfl
  | case3 xs pos h hc => rw [sift, dif_pos h, hc]
  | case4 xs pos h => rw [sift, dif_neg h]
theorem sift_len {α : Type} (lt : α → α → Bool) (st : Nat) (new : α) (xs : List α) (pos : Nat) : (sift lt st new xs pos).length = xs.length := by
  induction xs, pos using sift.induct lt st new with
  | case1 xs pos h p hc hl ih => rw [sift, dif_pos h, hc]; simp only [hl, if_true]; rw [ih, List.length_set]
  | case2 xs pos h p hc hl => rw [sift, dif_pos h, hc]; simp only [hl, if_false]; exact List.length_set
  | case3 xs pos h hc => rw [sift, dif_pos h, hc]; exact List.length_set
  | case4 xs pos h => rw [sift, dif_neg h]; exact List.length_set
theorem bub_mem {α : Type} (lt : α → α → Bool) (new : α) (xs : List α) (pos : Nat) (hp : pos < xs.length) (z : α) : z ∈ (bub lt xs pos).1.set (bub lt xs pos).2 new ↔ z ∈ xs.set pos new := by
  induction xs, pos using bub.induct lt with
  | case1 xs pos h c hc ih =>
    rw [bub, dif_pos h, hc]
    simp only
    have hk := kid_lt lt xs _ h
    have hg := kid_ge lt xs (2 * pos + 1)
    rw [ih (by rw [List.length_set]; exact hk)]
    exact mem_swap hp hc (by omega)
  | case2 xs pos h hc => rw [bub, dif_pos h, hc]
  | case3 xs pos h => rw [bub, dif_neg h]
theorem hpush_len {α : Type} (lt : α → α → Bool) (zs : List α) (z : α) : (hpush lt zs z).length = zs.length + 1 := by
  rw [hpush, sift_len]; simp
theorem hpush_mem {α : Type} (lt : α → α → Bool) (zs : List α) (z y : α) : y ∈ hpush lt zs z ↔ y ∈ zs ∨ y = z := by
  rw [hpush, sift_mem _ _ _ _ _ (by simp)]
  have : (zs ++ [z]).set zs.length z = zs ++ [z] := by simp
  rw [this]; simp
theorem hpop_mem {α : Type} (lt : α → α → Bool) (ys : List α) (l z : α) : z ∈ ys ++ [l] ↔ z = (hpop lt ys l).1 ∨ z ∈ (hpop lt ys l).2 := by
  cases ys with
  | nil => simp [hpop]
  | cons y r =>
    show _ ↔ z = y ∨ z ∈ siftup lt (l :: r) 0 l
    have hb := bub_length lt (l :: r) 0 (by simp)
    rw [siftup, sift_mem _ _ _ _ _ (by rw [List.length_set]; omega), List.set_set, bub_mem _ _ _ _ (by simp)]
    simp only [List.set_cons_zero, List.cons_append, List.mem_cons, List.mem_append, List.not_mem_nil, or_false]
    constructor
    · rintro (h | h | h)
      · exact .inl h
      · exact .inr (.inr h)
      · exact .inr (.inl h)
    · rintro (h | h | h)
      · exact .inl h
      · exact .inr (.inr h)
      · exact .inr (.inl h)
theorem hpop_len {α : Type} (lt : α → α → Bool) (ys : List α) (l : α) : (hpop lt ys l).2.length = ys.length := by
  cases ys with
  | nil => rfl
  | cons y r =>
    show (siftup lt (l :: r) 0 l).length = _
    have hb := bub_length lt (l :: r) 0 (by simp)
    rw [siftup, sift_len, List.length_set, hb.1]; simp
/- the heap's law -/
structure Ord {α : Type} (lt : α → α → Bool) : Prop where
  asym : ∀ a b, lt a b = true → lt b a = false
  trans : ∀ a b c, lt b a = false → lt c b = false → lt c a = false
noncomputable def HI {α : Type} (lt : α → α → Bool) (xs : List α) : Prop := ∀ (i : Nat) (a p : α), 0 < i → xs[i]? = some a → xs[(i - 1) / 2]? = some p → lt a p = false
/- the law but for one place -/
structure Hole {α : Type} (lt : α → α → Bool) (xs : List α) (pos : Nat) : Prop where
  law : ∀ (i : Nat) (a p : α), 0 < i → i ≠ pos → (i - 1) / 2 ≠ pos → xs[i]? = some a → xs[(i - 1) / 2]? = some p → lt a p = false
  gp : ∀ (i : Nat) (a p : α), 0 < pos → 0 < i → (i - 1) / 2 = pos → xs[i]? = some a → xs[(pos - 1) / 2]? = some p → lt a p = false
theorem sift_HI {α : Type} {lt : α → α → Bool} (O : Ord lt) (new : α) (xs : List α) (pos : Nat) (H : Hole lt xs pos) (hn : ∀ (i : Nat) (a : α), 0 < i → (i - 1) / 2 = pos → xs[i]? = some a → lt a new = false) : HI lt (sift lt 0 new xs pos) := by
  have fin : ∀ (xs : List α) (pos : Nat), Hole lt xs pos → (∀ (i : Nat) (a : α), 0 < i → (i - 1) / 2 = pos → xs[i]? = some a → lt a new = false) → (∀ p, 0 < pos → xs[(pos - 1) / 2]? = some p → lt new p = false) → HI lt (xs.set pos new) := by
    intro xs pos H hn hp i a p h0 ha hpp
    rw [getElem?_set'] at ha hpp
    by_cases h1 : i = pos
    · subst h1
      rw [if_pos rfl] at ha
      rw [if_neg (by omega)] at hpp
      split at ha
      · cases ha; exact hp p h0 hpp
      · cases ha
    · rw [if_neg h1] at ha
      by_cases h2 : (i - 1) / 2 = pos
      · rw [if_pos h2] at hpp
        split at hpp
        · cases hpp; exact hn i a h0 h2 ha
        · cases hpp
      · rw [if_neg h2] at hpp
        exact H.law i a p h0 h1 h2 ha hpp
  induction xs, pos using sift.induct lt 0 new with
  | case1 xs pos h p hc hl ih =>
    rw [sift, dif_pos h, hc]
    simp only [hl, if_true]
    have hq : (pos - 1) / 2 < xs.length := (List.getElem?_eq_some_iff.mp hc).1
    have asn := O.asym _ _ hl
    refine ih ⟨?_, ?_⟩ ?_
    · intro i a q h0 h1 h2 ha hqq
      rw [getElem?_set'] at ha hqq
      rw [if_neg (by omega)] at ha
      by_cases h3 : (i - 1) / 2 = pos
      · rw [if_pos h3] at hqq
        split at hqq
        · cases hqq; exact H.gp i a p h h0 h3 ha hc
        · cases hqq
      · rw [if_neg h3] at hqq
        exact H.law i a q h0 (by omega) h3 ha hqq
    · intro i a q hpp h0 h1 ha hqq
      rw [getElem?_set'] at ha hqq
      rw [if_neg (by omega)] at hqq
      have key : lt p q = false := H.law _ p q hpp (by omega) (by omega) hc hqq
      by_cases h2 : i = pos
      · rw [if_pos h2] at ha
        split at ha
        · cases ha; exact key
        · cases ha
      · rw [if_neg h2] at ha
        exact O.trans _ _ _ key (H.law i a p h0 h2 (by omega) ha (by rw [h1]; exact hc))
    · intro i a h0 h1 ha
      rw [getElem?_set'] at ha
      by_cases h2 : i = pos
      · rw [if_pos h2] at ha
        split at ha
        · cases ha; exact asn
        · cases ha
      · rw [if_neg h2] at ha
        exact O.trans _ _ _ asn (H.law i a p h0 h2 (by omega) ha (by rw [h1]; exact hc))
  | case2 xs pos h p hc hl =>
    rw [sift, dif_pos h, hc]
    simp only [hl, if_false]
    exact fin xs pos H hn fun q _ hq => by rw [hc] at hq; cases hq; exact Bool.eq_false_iff.mpr hl
  | case3 xs pos h hc =>
    rw [sift, dif_pos h, hc]
    exact fin xs pos H hn fun q _ hq => by rw [hc] at hq; cases hq
  | case4 xs pos h =>
    rw [sift, dif_neg h]
    exact fin xs pos H hn fun q h0 _ => absurd h0 h
theorem kid_or {α : Type} (lt : α → α → Bool) (xs : List α) (c : Nat) : kid lt xs c = c ∨ kid lt xs c = c + 1 := by
  unfold kid
  split
  · split <;> simp
  · exact .inl rfl
theorem kid_min {α : Type} {lt : α → α → Bool} (O : Ord lt) (xs : List α) (c i : Nat) (a k : α) (hi : i = c ∨ i = c + 1) (hne : i ≠ kid lt xs c) (ha : xs[i]? = some a) (hk : xs[kid lt xs c]? = some k) : lt a k = false := by
  unfold kid at hne hk
  split at hne
  · rename_i x y hx hy
    rw [hx, hy] at hk
    dsimp only at hk
    split at hne
    · rename_i hl
      rw [if_pos hl] at hk
      rcases hi with rfl | rfl
      · exact absurd rfl hne
      · rw [hx] at hk; cases hk; rw [hy] at ha; cases ha; exact O.asym _ _ hl
    · rename_i hl
      rw [if_neg hl] at hk
      rcases hi with rfl | rfl
      · rw [hy] at hk; cases hk; rw [hx] at ha; cases ha; exact Bool.eq_false_iff.mpr hl
      · exact absurd rfl hne
  · rename_i hno
    rcases hi with rfl | rfl
    · exact absurd rfl hne
    · have hc : ∃ x, xs[c]? = some x := ⟨_, List.getElem?_eq_getElem (by have := (List.getElem?_eq_some_iff.mp ha).1; omega)⟩
      obtain ⟨x, hx⟩ := hc
      exact (hno x a hx ha).elim
theorem bub_hole {α : Type} {lt : α → α → Bool} (O : Ord lt) (xs : List α) (pos : Nat) (H : Hole lt xs pos) : Hole lt (bub lt xs pos).1 (bub lt xs pos).2 ∧ ¬ 2 * (bub lt xs pos).2 + 1 < (bub lt xs pos).1.length := by
  induction xs, pos using bub.induct lt with
  | case1 xs pos h c hc ih =>
    rw [bub, dif_pos h, hc]
    simp only
    have hk := kid_lt lt xs _ h
    have hg := kid_ge lt xs (2 * pos + 1)
    have hor := kid_or lt xs (2 * pos + 1)
    have hpk : (kid lt xs (2 * pos + 1) - 1) / 2 = pos := by omega
    refine ih ⟨?_, ?_⟩
    · intro i a q h0 h1 h2 ha hq
      rw [getElem?_set'] at ha hq
      by_cases h3 : i = pos
      · subst h3
        rw [if_pos rfl] at ha
        rw [if_neg (by omega)] at hq
        split at ha
        · cases ha; exact H.gp _ _ _ h0 (by omega) hpk hc hq
        · cases ha
      · rw [if_neg h3] at ha
        by_cases h4 : (i - 1) / 2 = pos
        · rw [if_pos h4] at hq
          split at hq
          · cases hq; exact kid_min O xs (2 * pos + 1) i a c (by omega) h1 ha hc
          · cases hq
        · rw [if_neg h4] at hq
          exact H.law i a q h0 h3 h4 ha hq
    · intro i a q hp0 h0 h1 ha hq
      rw [getElem?_set'] at ha hq
      rw [if_neg (by omega)] at ha
      rw [hpk, if_pos rfl] at hq
      split at hq
      · cases hq; exact H.law i a c h0 (by omega) (by omega) ha (by rw [h1]; exact hc)
      · cases hq
  | case2 xs pos h hc =>
    exfalso
    have hk := kid_lt lt xs _ h
    rw [List.getElem?_eq_getElem hk] at hc; cases hc
  | case3 xs pos h => rw [bub, dif_neg h]; exact ⟨H, h⟩
theorem hpush_HI {α : Type} {lt : α → α → Bool} (O : Ord lt) {zs : List α} (H : HI lt zs) (z : α) : HI lt (hpush lt zs z) := by
  have hlen : ∀ {i : Nat} {a : α}, (zs ++ [z])[i]? = some a → i ≠ zs.length → zs[i]? = some a := fun {i a} h hne => by
    have := (List.getElem?_eq_some_iff.mp h).1
    rw [List.length_append, List.length_singleton] at this
    rw [List.getElem?_append_left (by omega)] at h; exact h
  refine sift_HI O z _ _ ⟨fun i a p h0 h1 h2 ha hp => H i a p h0 (hlen ha h1) (hlen hp h2), fun i a p _ h0 h1 ha _ => ?_⟩ fun i a h0 h1 ha => ?_
  all_goals
    have := (List.getElem?_eq_some_iff.mp ha).1
    rw [List.length_append, List.length_singleton] at this
    omega
theorem hpop_HI {α : Type} {lt : α → α → Bool} (O : Ord lt) {ys : List α} {l : α} (H : HI lt (ys ++ [l])) : HI lt (hpop lt ys l).2 := by
  cases ys with
  | nil => intro i a p _ ha; simp [hpop] at ha
  | cons y r =>
    show HI lt (siftup lt (l :: r) 0 l)
    have up : ∀ {i : Nat} {a : α}, 0 < i → (l :: r)[i]? = some a → (y :: r ++ [l])[i]? = some a := fun {i a} h0 h => by
      cases i with
      | zero => omega
      | succ i =>
        rw [List.getElem?_cons_succ] at h
        rw [List.cons_append, List.getElem?_cons_succ, List.getElem?_append_left (List.getElem?_eq_some_iff.mp h).1]
        exact h
    obtain ⟨B, hB⟩ := bub_hole O (l :: r) 0 ⟨fun i a p h0 h1 h2 ha hp => H i a p h0 (up h0 ha) (up (by omega) hp), fun i a p hp => absurd hp (Nat.lt_irrefl _)⟩
    have hb := bub_length lt (l :: r) 0 (by simp)
    have nochild : ∀ (i : Nat) (a : α), 0 < i → (i - 1) / 2 = (bub lt (l :: r) 0).2 → ((bub lt (l :: r) 0).1.set (bub lt (l :: r) 0).2 l)[i]? = some a → False := fun i a h0 h1 ha => by
      have := (List.getElem?_eq_some_iff.mp ha).1
      rw [List.length_set] at this
      omega
    refine sift_HI O l _ _ ⟨fun i a p h0 h1 h2 ha hp => ?_, fun i a p _ h0 h1 ha _ => (nochild i a h0 h1 ha).elim⟩ fun i a h0 h1 ha => (nochild i a h0 h1 ha).elim
    rw [getElem?_set', if_neg h1] at ha
    rw [getElem?_set', if_neg h2] at hp
    exact B.law i a p h0 h1 h2 ha hp
theorem HI_min {α : Type} {lt : α → α → Bool} (O : Ord lt) (irr : ∀ a, lt a a = false) {xs : List α} (H : HI lt xs) {y : α} (hy : xs[0]? = some y) : ∀ z ∈ xs, lt z y = false := by
  have key : ∀ (n i : Nat) (a : α), i ≤ n → xs[i]? = some a → lt a y = false := by
    intro n
    induction n with
    | zero => intro i a hi ha; have : i = 0 := by omega
              subst this; rw [hy] at ha; cases ha; exact irr _
    | succ n ih =>
      intro i a hi ha
      by_cases h0 : i = 0
      · subst h0; rw [hy] at ha; cases ha; exact irr _
      · obtain ⟨p, hp⟩ : ∃ p, xs[(i - 1) / 2]? = some p := ⟨_, List.getElem?_eq_getElem (by have := (List.getElem?_eq_some_iff.mp ha).1; omega)⟩
        exact O.trans _ _ _ (ih _ p (by omega) hp) (H i a p (by omega) ha hp)
  intro z hz
  obtain ⟨i, hi⟩ := List.mem_iff_getElem?.mp hz
  exact key i i z (Nat.le_refl _) hi
theorem hpop_first {α : Type} (lt : α → α → Bool) (ys : List α) (l : α) : (ys ++ [l])[0]? = some (hpop lt ys l).1 := by
  cases ys <;> rfl
/- a map that keeps the order goes through -/
section
variable {α β : Type} {lt : α → α → Bool} {lt' : β → β → Bool} {f : α → β}
theorem sift_map (hf : ∀ a b, lt' (f a) (f b) = lt a b) (st : Nat) (new : α) (xs : List α) (pos : Nat) : sift lt' st (f new) (xs.map f) pos = (sift lt st new xs pos).map f := by
  induction xs, pos using sift.induct lt st new with
  | case1 xs pos h p hc hl ih =>
    rw [sift, sift, dif_pos h, dif_pos h, List.getElem?_map, hc]
    simp only [Option.map_some, hf, hl, if_true]
    rw [← ih, List.map_set]
  | case2 xs pos h p hc hl =>
    rw [sift, sift, dif_pos h, dif_pos h, List.getElem?_map, hc]
    simp only [Option.map_some, hf, hl, Bool.false_eq_true, if_false]
    rw [List.map_set]
  | case3 xs pos h hc =>
    rw [sift, sift, dif_pos h, dif_pos h, List.getElem?_map, hc]
    simp only [Option.map_none]
    rw [List.map_set]
  | case4 xs pos h => rw [sift, sift, dif_neg h, dif_neg h, List.map_set]
theorem kid_map (hf : ∀ a b, lt' (f a) (f b) = lt a b) (xs : List α) (c : Nat) : kid lt' (xs.map f) c = kid lt xs c := by
  unfold kid
  rw [List.getElem?_map, List.getElem?_map]
  cases xs[c]? <;> cases xs[c + 1]? <;> simp [hf]
theorem bub_map (hf : ∀ a b, lt' (f a) (f b) = lt a b) (xs : List α) (pos : Nat) : bub lt' (xs.map f) pos = ((bub lt xs pos).1.map f, (bub lt xs pos).2) := by
  induction xs, pos using bub.induct lt with
  | case1 xs pos h c hc ih =>
    rw [bub, bub, dif_pos h, dif_pos (by rw [List.length_map]; exact h), kid_map hf, List.getElem?_map, hc]
    simp only [Option.map_some]
    rw [← ih, List.map_set]
  | case2 xs pos h hc =>
    rw [bub, bub, dif_pos h, dif_pos (by rw [List.length_map]; exact h), kid_map hf, List.getElem?_map, hc]
    rfl
  | case3 xs pos h => rw [bub, bub, dif_neg h, dif_neg (by rw [List.length_map]; exact h)]
theorem hpush_map (hf : ∀ a b, lt' (f a) (f b) = lt a b) (zs : List α) (z : α) : hpush lt' (zs.map f) (f z) = (hpush lt zs z).map f := by
  unfold hpush
  rw [← sift_map hf, List.length_map, List.map_append]
  rfl
theorem hpop_map (hf : ∀ a b, lt' (f a) (f b) = lt a b) (ys : List α) (l : α) : hpop lt' (ys.map f) (f l) = (f (hpop lt ys l).1, (hpop lt ys l).2.map f) := by
  cases ys with
  | nil => rfl
  | cons y r =>
    show (f y, siftup lt' (f l :: r.map f) 0 (f l)) = (f y, (siftup lt (l :: r) 0 l).map f)
    unfold siftup
    have e : f l :: r.map f = (l :: r).map f := rfl
    rw [e, bub_map hf, ← sift_map hf, List.map_set]
end
end Mine
namespace Mine
/- looking ahead, round by round -/
noncomputable def evS : Option Nat → Bool
  | some m => m % 2 == 0
  | none => false
noncomputable def odS : Option Nat → Bool
  | some m => m % 2 == 1
  | none => false
theorem evS_iff {o : Option Nat} : evS o = true ↔ ∃ m, o = some m ∧ m % 2 = 0 := by
  cases o <;> simp [evS]
theorem odS_iff {o : Option Nat} : odS o = true ↔ ∃ m, o = some m ∧ m % 2 = 1 := by
  cases o <;> simp [odS]
noncomputable def told (A : Nat → List Nat) : Nat → Nat → Option Nat
  | 0, _ => none
  | l + 1, k => if told A l k = none ∧ (if l % 2 = 1 then (A k).any (fun j => evS (told A l j)) else (A k).all (fun j => odS (told A l j))) = true then some l else told A l k
noncomputable def cnd (A : Nat → List Nat) (l k : Nat) : Prop := if l % 2 = 1 then ∃ j ∈ A k, ∃ m, told A l j = some m ∧ m % 2 = 0 else ∀ j ∈ A k, ∃ m, told A l j = some m ∧ m % 2 = 1
theorem cnd_iff {A : Nat → List Nat} {l k : Nat} : (if l % 2 = 1 then (A k).any (fun j => evS (told A l j)) else (A k).all (fun j => odS (told A l j))) = true ↔ cnd A l k := by
  unfold cnd
  split
  · rw [List.any_eq_true]
    exact ⟨fun ⟨j, a, b⟩ => ⟨j, a, evS_iff.mp b⟩, fun ⟨j, a, b⟩ => ⟨j, a, evS_iff.mpr b⟩⟩
  · rw [List.all_eq_true]
    exact ⟨fun h j a => odS_iff.mp (h j a), fun h j a => odS_iff.mpr (h j a)⟩
theorem told_succ {A : Nat → List Nat} {l k : Nat} : (told A l k = none ∧ cnd A l k → told A (l + 1) k = some l) ∧ (¬ (told A l k = none ∧ cnd A l k) → told A (l + 1) k = told A l k) := by
  constructor
  · rintro ⟨a, b⟩; rw [told, if_pos ⟨a, cnd_iff.mpr b⟩]
  · intro h; rw [told, if_neg fun q => h ⟨q.1, cnd_iff.mp q.2⟩]
theorem told_lt {A : Nat → List Nat} : ∀ {l k m : Nat}, told A l k = some m → m < l := by
  intro l
  induction l with
  | zero => intro k m h; cases h
  | succ l ih =>
    intro k m h
    by_cases q : told A l k = none ∧ cnd A l k
    · rw [told_succ.1 q] at h; cases h; exact Nat.lt_succ_self _
    · rw [told_succ.2 q] at h; exact Nat.lt_succ_of_lt (ih h)
theorem told_up1 {A : Nat → List Nat} {l k m : Nat} (h : told A l k = some m) : told A (l + 1) k = some m := by
  rw [told_succ.2 fun q => by rw [h] at q; cases q.1]; exact h
theorem told_up {A : Nat → List Nat} {l l' k m : Nat} (h : told A l k = some m) (hl : l ≤ l') : told A l' k = some m := by
  induction hl with
  | refl => exact h
  | step _ ih => exact told_up1 ih
/- decided at round l -/
noncomputable def D (A : Nat → List Nat) (k l : Nat) : Prop := told A l k = none ∧ cnd A l k
theorem D.told {A : Nat → List Nat} {k l : Nat} (d : D A k l) : told A (l + 1) k = some l := told_succ.1 d
theorem D.of {A : Nat → List Nat} : ∀ {l k m : Nat}, Mine.told A l k = some m → D A k m := by
  intro l
  induction l with
  | zero => intro k m h; cases h
  | succ l ih =>
    intro k m h
    by_cases q : Mine.told A l k = none ∧ cnd A l k
    · rw [told_succ.1 q] at h; cases h; exact q
    · rw [told_succ.2 q] at h; exact ih h
theorem D.up {A : Nat → List Nat} {k l m : Nat} (d : D A k m) (h : m < l) : Mine.told A l k = some m := told_up d.told h
theorem D.uniq {A : Nat → List Nat} {k l m : Nat} (d : D A k m) (e : D A k l) : m = l := by
  have a := d.up (l := m + l + 1) (by omega)
  have b := e.up (l := m + l + 1) (by omega)
  rw [a] at b; exact Option.some.inj b
/- strictly more -/
theorem countP_lt {p q : Nat → Bool} : ∀ {xs : List Nat}, (∀ x ∈ xs, p x = true → q x = true) → (∃ x ∈ xs, q x = true ∧ p x = false) → xs.countP p < xs.countP q := by
  intro xs
  induction xs with
  | nil => rintro _ ⟨x, hx, _⟩; cases hx
  | cons x xs ih =>
    intro h ⟨y, hy, hq, hp⟩
    have hle : xs.countP p ≤ xs.countP q := List.countP_mono_left fun z hz => h z (List.mem_cons_of_mem _ hz)
    rw [List.countP_cons, List.countP_cons]
    rcases List.mem_cons.mp hy with rfl | hy
    · rw [if_pos hq, if_neg (by rw [hp]; decide)]; omega
    · have := ih (fun z hz => h z (List.mem_cons_of_mem _ hz)) ⟨y, hy, hq, hp⟩
      by_cases a : p x = true
      · rw [if_pos a, if_pos (h x (.head _) a)]; omega
      · rw [if_neg a]; omega
/- a round that settles has one before it that settles -/
theorem D.prev {A : Nat → List Nat} {n k l : Nat} (hA : ∀ k, k < n → ∀ j ∈ A k, j < n) (hk : k < n) (d : D A k (l + 1)) : ∃ j, j < n ∧ D A j l := by
  obtain ⟨d1, d2⟩ := d
  unfold cnd at d2
  by_cases h : (l + 1) % 2 = 1
  · rw [if_pos h] at d2
    obtain ⟨j, hj, m, hm, he⟩ := d2
    have hml := told_lt hm
    by_cases q : m = l
    · obtain rfl := q.symm; exact ⟨j, hA k hk j hj, D.of hm⟩
    · exfalso
      have : m + 1 < l + 1 := by omega
      have hc : cnd A (m + 1) k := by
        unfold cnd; rw [if_pos (by omega)]
        exact ⟨j, hj, m, (D.of hm).told, he⟩
      have hn : Mine.told A (m + 1) k = none := by
        cases z : Mine.told A (m + 1) k with
        | none => rfl
        | some x => rw [told_up z (Nat.le_of_lt this)] at d1; cases d1
      rw [D.up ⟨hn, hc⟩ this] at d1; cases d1
  · rw [if_neg h] at d2
    cases hl : l with
    | zero => omega
    | succ l' =>
    subst hl
    -- some j is told at l' + 1
    by_cases q : ∃ j ∈ A k, Mine.told A (l' + 1 + 1) j = some (l' + 1)
    · obtain ⟨j, hj, hm⟩ := q; exact ⟨j, hA k hk j hj, D.of hm⟩
    · exfalso
      have hc : cnd A l' k := by
        unfold cnd; rw [if_neg (by omega)]
        intro j hj
        obtain ⟨m, hm, ho⟩ := d2 j hj
        have := told_lt hm
        have hne : m ≠ l' + 1 := fun z => q ⟨j, hj, z ▸ hm⟩
        have hne' : m ≠ l' := fun z => by omega
        exact ⟨m, (D.of hm).up (by omega), ho⟩
      have hn : Mine.told A l' k = none := by
        cases z : Mine.told A l' k with
        | none => rfl
        | some x => rw [told_up z (by omega)] at d1; cases d1
      rw [D.up ⟨hn, hc⟩ (by omega)] at d1; cases d1
theorem D.count {A : Nat → List Nat} {n : Nat} (hA : ∀ k, k < n → ∀ j ∈ A k, j < n) : ∀ {l k : Nat}, k < n → D A k l → l + 1 ≤ (List.range n).countP (fun k => (Mine.told A (l + 1) k).isSome) := by
  intro l
  induction l with
  | zero =>
    intro k hk d
    exact List.countP_pos_iff.mpr ⟨k, List.mem_range.mpr hk, by rw [d.told]; rfl⟩
  | succ l ih =>
    intro k hk d
    obtain ⟨j, hj, dj⟩ := d.prev hA hk
    have := ih hj dj
    refine Nat.lt_of_le_of_lt this (countP_lt (fun x _ hx => ?_) ⟨k, List.mem_range.mpr hk, by rw [d.told]; rfl, ?_⟩)
    · obtain ⟨m, hm⟩ := Option.isSome_iff_exists.mp hx
      rw [told_up1 hm]; rfl
    · rw [d.1]; rfl
theorem D.bound {A : Nat → List Nat} {n : Nat} (hA : ∀ k, k < n → ∀ j ∈ A k, j < n) {l k : Nat} (hk : k < n) (d : D A k l) : l < n := by
  have h1 := d.count hA hk
  have h2 : (List.range n).countP (fun k => (Mine.told A (l + 1) k).isSome) ≤ n := by
    have := List.countP_le_length (p := fun k => (Mine.told A (l + 1) k).isSome) (l := List.range n)
    rwa [List.length_range] at this
  omega
/- settling, by a heap -/
noncomputable abbrev N3 := Nat × Nat × Nat
noncomputable def ltN (t u : N3) : Bool := decide (t.1 < u.1) || (decide (t.1 = u.1) && (decide (t.2.1 < u.2.1) || (decide (t.2.1 = u.2.1) && decide (t.2.2 < u.2.2))))
theorem ltN_iff {t u : N3} : ltN t u = true ↔ t.1 < u.1 ∨ (t.1 = u.1 ∧ (t.2.1 < u.2.1 ∨ (t.2.1 = u.2.1 ∧ t.2.2 < u.2.2))) := by
  simp [ltN]
theorem ltN_ord : Ord ltN where
  asym a b h := by rw [ltN_iff] at h; rw [Bool.eq_false_iff, ne_eq, ltN_iff]; omega
  trans a b c h1 h2 := by rw [Bool.eq_false_iff, ne_eq, ltN_iff] at h1 h2 ⊢; omega
theorem ltN_irr (a : N3) : ltN a a = false := by rw [Bool.eq_false_iff, ne_eq, ltN_iff]; omega
noncomputable def upd {β : Type} (f : Nat → β) (j : Nat) (v : β) : Nat → β := fun i => if i = j then v else f i
theorem upd_at {β : Type} {f : Nat → β} {j : Nat} {v : β} : upd f j v j = v := if_pos rfl
theorem upd_ne {β : Type} {f : Nat → β} {i j : Nat} {v : β} (h : i ≠ j) : upd f j v i = f i := if_neg h
theorem map_upd {β γ : Type} (g : β → γ) (f : Nat → β) (n j : Nat) (v : β) : ((List.range n).map fun i => g (upd f j v i)) = ((List.range n).map fun i => g (f i)).set j (g v) := by
  apply List.ext_getElem?
  intro i
  rw [getElem?_set', List.getElem?_map, List.getElem?_map, List.length_map, List.length_range]
  by_cases h : i < n
  · rw [List.getElem?_range h]
    by_cases q : i = j
    · obtain rfl := q.symm; simp [upd, h]
    · rw [if_neg q]; simp [upd, q]
  · rw [List.getElem?_eq_none (by simp; omega)]
    by_cases q : i = j
    · obtain rfl := q.symm; simp [h]
    · rw [if_neg q]; rfl
structure St where
  heap : List N3
  left : Nat → Int
  rounds : Nat → Option Nat
  fam : Nat → List Nat
  order : List Nat
noncomputable def one (lvl k : Nat) (st : St) (j : Nat) : St :=
  let lf := if lvl % 2 = 1 then upd st.left j (st.left j - 1) else st.left
  { st with left := lf, heap := if st.rounds j = none ∧ (lvl % 2 = 0 ∨ lf j = 0) then hpush ltN st.heap (lvl + 1, j, k) else st.heap }
noncomputable def set1 (st : St) (rest : List N3) (lvl k src : Nat) : St :=
  { heap := rest, left := st.left, rounds := upd st.rounds k (some lvl), fam := if src ≠ k then upd st.fam src (st.fam src ++ [k]) else st.fam, order := st.order ++ [k] }
noncomputable def turnS (B : Nat → List Nat) (st : St) (t : N3) (rest : List N3) : St :=
  if st.rounds t.2.1 = none then (B t.2.1).foldl (one t.1 t.2.1) (set1 st rest t.1 t.2.1 t.2.2) else { st with heap := rest }
theorem one_same (lvl k : Nat) (st : St) (j : Nat) : (one lvl k st j).rounds = st.rounds ∧ (one lvl k st j).fam = st.fam ∧ (one lvl k st j).order = st.order := ⟨rfl, rfl, rfl⟩
theorem one_heap (lvl k : Nat) (st : St) (j : Nat) : (one lvl k st j).heap = if st.rounds j = none ∧ (lvl % 2 = 0 ∨ (one lvl k st j).left j = 0) then hpush ltN st.heap (lvl + 1, j, k) else st.heap := rfl
theorem fold_same (lvl k : Nat) : ∀ (bs : List Nat) (st : St), (bs.foldl (one lvl k) st).rounds = st.rounds ∧ (bs.foldl (one lvl k) st).fam = st.fam ∧ (bs.foldl (one lvl k) st).order = st.order
  | [], st => ⟨rfl, rfl, rfl⟩
  | b :: bs, st => fold_same lvl k bs (one lvl k st b)
theorem fold_left (lvl k : Nat) : ∀ (bs : List Nat) (st : St) (j : Nat), (bs.foldl (one lvl k) st).left j = if lvl % 2 = 1 then st.left j - (bs.count j : Nat) else st.left j
  | [], st, j => by simp
  | b :: bs, st, j => by
    rw [List.foldl_cons, fold_left lvl k bs]
    by_cases h : lvl % 2 = 1
    · rw [if_pos h, if_pos h]
      simp only [one, if_pos h]
      rw [List.count_cons]
      by_cases q : j = b
      · obtain rfl := q.symm; rw [upd_at]; simp; omega
      · rw [upd_ne q, if_neg (by simp; exact fun z => q z.symm)]; simp
    · rw [if_neg h, if_neg h]; simp only [one, if_neg h]
theorem fold_HI (lvl k : Nat) : ∀ (bs : List Nat) (st : St), HI ltN st.heap → HI ltN (bs.foldl (one lvl k) st).heap
  | [], st, h => h
  | b :: bs, st, h => by
    rw [List.foldl_cons]
    refine fold_HI lvl k bs _ ?_
    rw [one_heap]
    split
    · exact hpush_HI ltN_ord h _
    · exact h
theorem fold_len (lvl k : Nat) : ∀ (bs : List Nat) (st : St), (bs.foldl (one lvl k) st).heap.length ≤ st.heap.length + bs.length
  | [], st => Nat.le_refl _
  | b :: bs, st => by
    rw [List.foldl_cons]
    refine Nat.le_trans (fold_len lvl k bs _) ?_
    rw [one_heap, List.length_cons]
    split
    · rw [hpush_len]; omega
    · omega
theorem fold_old (lvl k : Nat) : ∀ (bs : List Nat) (st : St) (z : N3), z ∈ st.heap → z ∈ (bs.foldl (one lvl k) st).heap
  | [], st, z, h => h
  | b :: bs, st, z, h => by
    rw [List.foldl_cons]
    refine fold_old lvl k bs _ z ?_
    rw [one_heap]
    split
    · rw [hpush_mem]; exact .inl h
    · exact h
theorem fold_new (lvl k : Nat) : ∀ (bs : List Nat) (st : St) (z : N3), (∀ j, 0 ≤ (bs.foldl (one lvl k) st).left j) → z ∈ (bs.foldl (one lvl k) st).heap → z ∈ st.heap ∨ ∃ j ∈ bs, z = (lvl + 1, j, k) ∧ st.rounds j = none ∧ (lvl % 2 = 0 ∨ (bs.foldl (one lvl k) st).left j = 0)
  | [], st, z, _, h => .inl h
  | b :: bs, st, z, hn, h => by
    rw [List.foldl_cons] at hn h ⊢
    rcases fold_new lvl k bs _ z hn h with h | ⟨j, a, b', c, d⟩
    · rw [one_heap] at h
      split at h
      · rename_i q
        rw [hpush_mem] at h
        rcases h with h | rfl
        · exact .inl h
        · refine .inr ⟨b, .head _, rfl, q.1, ?_⟩
          rcases q.2 with q2 | q2
          · exact .inl q2
          · by_cases ho : lvl % 2 = 1
            · right
              have h1 := hn b
              have h2 := fold_left lvl k bs (one lvl k st b) b
              rw [if_pos ho] at h2
              have h3 : (one lvl k st b).left b = 0 := q2
              omega
            · left; omega
      · exact .inl h
    · exact .inr ⟨j, List.mem_cons_of_mem _ a, b', c, d⟩
theorem fold_push (lvl k : Nat) : ∀ (bs : List Nat) (st : St) (j : Nat), j ∈ bs → st.rounds j = none → (lvl % 2 = 0 ∨ (bs.foldl (one lvl k) st).left j = 0) → (lvl + 1, j, k) ∈ (bs.foldl (one lvl k) st).heap
  | [], st, j, h, _, _ => nomatch h
  | b :: bs, st, j, h, hr, hl => by
    rw [List.foldl_cons] at hl ⊢
    by_cases q : j ∈ bs
    · exact fold_push lvl k bs (one lvl k st b) j q hr hl
    · have : j = b := (List.mem_cons.mp h).resolve_right q
      subst this
      refine fold_old lvl k bs _ _ ?_
      have h2 := fold_left lvl k bs (one lvl k st j) j
      rw [List.count_eq_zero.mpr q] at h2
      have h3 : lvl % 2 = 0 ∨ (one lvl k st j).left j = 0 := by
        rcases hl with hl | hl
        · exact .inl hl
        · by_cases ho : lvl % 2 = 1
          · rw [if_pos ho] at h2; right; omega
          · left; omega
      have h4 : (one lvl k st j).heap = hpush ltN st.heap (lvl + 1, j, k) := by
        rw [one_heap, if_pos ⟨hr, h3⟩]
      rw [h4, hpush_mem]; exact .inr rfl
end Mine
namespace Mine
/- the board: who moves where -/
structure Brd (A B : Nat → List Nat) (n w : Nat) : Prop where
  lt : ∀ k, k < n → ∀ j ∈ A k, j < n
  lt' : ∀ k, k < n → ∀ j ∈ B k, j < n
  cnt : ∀ j k, j < n → k < n → (A j).count k = (B k).count j
  len : ∀ k, k < n → (B k).length ≤ w
theorem Brd.mem {A B : Nat → List Nat} {n w j k : Nat} (b : Brd A B n w) (hj : j < n) (hk : k < n) : k ∈ A j ↔ j ∈ B k := by
  rw [← List.count_pos_iff, ← List.count_pos_iff, b.cnt j k hj hk]
structure Inv (A : Nat → List Nat) (n : Nat) (st : St) : Prop where
  b0 : ∀ z ∈ st.heap, z.2.1 < n ∧ z.2.2 < n
  hp : HI ltN st.heap
  rl : ∀ k m, st.rounds k = some m → k < n
  i1 : ∀ k m, st.rounds k = some m → D A k m
  i2 : ∀ l j src, (l, j, src) ∈ st.heap → (l = 0 ∧ A j = [] ∧ src = j) ∨ ∃ m, l = m + 1 ∧ src ∈ A j ∧ st.rounds src = some m ∧ (m % 2 = 1 → ∀ i ∈ A j, ∃ m', st.rounds i = some m' ∧ m' % 2 = 1 ∧ m' ≤ m)
  i4 : ∀ z ∈ st.heap, ∀ k m, st.rounds k = some m → m ≤ z.1
  c0 : ∀ k, k < n → A k = [] → st.rounds k ≠ none ∨ (0, k, k) ∈ st.heap
  c1 : ∀ k, k < n → ∀ j ∈ A k, ∀ m, st.rounds j = some m → m % 2 = 0 → st.rounds k ≠ none ∨ (m + 1, k, j) ∈ st.heap
  c2 : ∀ k, k < n → st.left k = ((A k).countP fun i => !odS (st.rounds i) : Nat)
  c2' : ∀ k, ¬ k < n → 0 ≤ st.left k
  c3 : ∀ k, k < n → A k ≠ [] → (∀ i ∈ A k, ∃ m, st.rounds i = some m ∧ m % 2 = 1) → st.rounds k ≠ none ∨ ∃ l src, (l, k, src) ∈ st.heap
  t1 : ∀ s e, e ∈ st.fam s → e ≠ s → ∃ m, st.rounds e = some (m + 1) ∧ st.rounds s = some m ∧ s ∈ A e
  t2 : ∀ e m, st.rounds e = some (m + 1) → ∃ s, s < n ∧ e ∈ st.fam s ∧ e ≠ s
  t3 : ∀ s, ∃ t, st.fam s = s :: t
  t4 : ∀ s, (st.fam s).length ≤ st.order.length + 1
  o1 : ∀ k, k ∈ st.order ↔ ∃ m, st.rounds k = some m
  o2 : st.order.Pairwise fun a b => ∀ x y, st.rounds a = some x → st.rounds b = some y → x ≤ y
  o3 : st.order.Nodup
/- all that is decided below the heap's first level is settled -/
theorem Inv.below {A : Nat → List Nat} {n : Nat} {st : St} (I : Inv A n st) (hA : ∀ k, k < n → ∀ j ∈ A k, j < n) {l : Nat} (hl : ∀ z ∈ st.heap, l ≤ z.1) : ∀ m, m < l → ∀ k, k < n → D A k m → st.rounds k = some m := by
  intro m
  induction m using Nat.strongRecOn with
  | _ m ih =>
    intro hm k hk d
    have some_of : st.rounds k ≠ none → st.rounds k = some m := fun h => by
      cases e : st.rounds k with
      | none => exact absurd e h
      | some x => rw [(I.i1 k x e).uniq d]
    refine some_of ?_
    have dc := d.2
    unfold cnd at dc
    by_cases hz : A k = []
    · rcases I.c0 k hk hz with h | h
      · exact h
      · have h1 := hl _ h
        have h2 : l ≤ 0 := h1
        omega
    · by_cases ho : m % 2 = 1
      · rw [if_pos ho] at dc
        obtain ⟨j, hj, m', hm', he⟩ := dc
        have hlt := told_lt hm'
        have hR := ih m' hlt (by omega) j (hA k hk j hj) (D.of hm')
        rcases I.c1 k hk j hj m' hR he with h | h
        · exact h
        · have h1 := hl _ h
          have h2 : l ≤ m' + 1 := h1
          omega
      · rw [if_neg ho] at dc
        have all : ∀ i ∈ A k, ∃ m', st.rounds i = some m' ∧ m' % 2 = 1 ∧ m' < m := fun i hi => by
          obtain ⟨m', hm', he⟩ := dc i hi
          have hlt := told_lt hm'
          exact ⟨m', ih m' hlt (by omega) i (hA k hk i hi) (D.of hm'), he, hlt⟩
        rcases I.c3 k hk hz (fun i hi => let ⟨m', a, b, _⟩ := all i hi; ⟨m', a, b⟩) with h | ⟨lv, src, h⟩
        · exact h
        · exfalso
          have h1 := hl _ h
          have h1' : l ≤ lv := h1
          rcases I.i2 lv k src h with ⟨a, b, _⟩ | ⟨x, rfl, a, b, c⟩
          · exact hz b
          · obtain ⟨m', e1, e2, e3⟩ := all src a
            rw [b] at e1; cases e1
            omega
/- what comes first is decided then -/
theorem Inv.first {A : Nat → List Nat} {n : Nat} {st : St} (I : Inv A n st) (hA : ∀ k, k < n → ∀ j ∈ A k, j < n) {l k src : Nat} (hm : (l, k, src) ∈ st.heap) (hl : ∀ z ∈ st.heap, l ≤ z.1) (hr : st.rounds k = none) : D A k l := by
  have hk := (I.b0 _ hm).1
  refine ⟨?_, ?_⟩
  · cases e : told A l k with
    | none => rfl
    | some x =>
      have := I.below hA hl x (told_lt e) k hk (D.of e)
      rw [hr] at this; cases this
  · unfold cnd
    rcases I.i2 l k src hm with ⟨rfl, b, _⟩ | ⟨m, rfl, a, b, c⟩
    · rw [if_neg (by decide), b]
      intro j hj; cases hj
    · by_cases ho : (m + 1) % 2 = 1
      · rw [if_pos ho]
        exact ⟨src, a, m, (I.i1 _ _ b).told, by omega⟩
      · rw [if_neg ho]
        intro j hj
        obtain ⟨m', e1, e2, e3⟩ := c (by omega) j hj
        exact ⟨m', (I.i1 _ _ e1).up (by omega), e2⟩
theorem Inv.skip {A : Nat → List Nat} {n : Nat} {st : St} (I : Inv A n st) {l k src : Nat} {rest : List N3} (hmem : ∀ z, z ∈ st.heap ↔ z = (l, k, src) ∨ z ∈ rest) (hHI : HI ltN rest) (hr : st.rounds k ≠ none) : Inv A n { st with heap := rest } := by
  have sub : ∀ z ∈ rest, z ∈ st.heap := fun z h => (hmem z).mpr (.inr h)
  refine ⟨fun z h => I.b0 z (sub z h), hHI, I.rl, I.i1, fun l j s h => I.i2 l j s (sub _ h), fun z h => I.i4 z (sub z h), fun j hj h => ?_, fun j hj i hi m a b => ?_, I.c2, I.c2', fun j hj a b => ?_, I.t1, I.t2, I.t3, I.t4, I.o1, I.o2, I.o3⟩
  · rcases I.c0 j hj h with q | q
    · exact .inl q
    · rcases (hmem _).mp q with q | q
      · cases q; exact .inl hr
      · exact .inr q
  · rcases I.c1 j hj i hi m a b with q | q
    · exact .inl q
    · rcases (hmem _).mp q with q | q
      · cases q; exact .inl hr
      · exact .inr q
  · rcases I.c3 j hj a b with q | ⟨x, y, q⟩
    · exact .inl q
    · rcases (hmem _).mp q with q | q
      · cases q; exact .inl hr
      · exact .inr ⟨x, y, q⟩
theorem countP_split {p q : Nat → Bool} {k : Nat} (hne : ∀ x, x ≠ k → p x = q x) (hp : p k = false) (hq : q k = true) : ∀ xs : List Nat, xs.countP q = xs.countP p + xs.count k
  | [] => rfl
  | x :: xs => by
    rw [List.countP_cons, List.countP_cons, List.count_cons, countP_split hne hp hq xs]
    by_cases h : x = k
    · subst h; rw [hp, hq]; simp; omega
    · rw [hne x h]; simp [h]; omega
theorem Inv.set {A B : Nat → List Nat} {n w : Nat} {st : St} (b : Brd A B n w) (I : Inv A n st) {l k src : Nat} {rest : List N3} (hmem : ∀ z, z ∈ st.heap ↔ z = (l, k, src) ∨ z ∈ rest) (hHI : HI ltN rest) (hl : ∀ z ∈ st.heap, l ≤ z.1) (hr : st.rounds k = none) :
    Inv A n ((B k).foldl (one l k) (set1 st rest l k src)) := by
  have hm : (l, k, src) ∈ st.heap := (hmem _).mpr (.inl rfl)
  have sub : ∀ z ∈ rest, z ∈ st.heap := fun z h => (hmem z).mpr (.inr h)
  have hk : k < n := (I.b0 _ hm).1
  have hs : src < n := (I.b0 _ hm).2
  have dk := I.first b.lt hm hl hr
  obtain ⟨e1, e2, e3⟩ := fold_same l k (B k) (set1 st rest l k src)
  have eR : ∀ i, ((B k).foldl (one l k) (set1 st rest l k src)).rounds i = upd st.rounds k (some l) i := fun i => by rw [e1]; rfl
  have eL := fold_left l k (B k) (set1 st rest l k src)
  have Rk : upd st.rounds k (some l) k = some l := upd_at
  have Rn : ∀ i, i ≠ k → upd st.rounds k (some l) i = st.rounds i := fun i h => upd_ne h
  have Rold : ∀ i m, st.rounds i = some m → upd st.rounds k (some l) i = some m := fun i m h => by
    by_cases q : i = k
    · obtain rfl := q.symm; rw [hr] at h; cases h
    · rw [Rn i q]; exact h
  have Rnew : ∀ i m, upd st.rounds k (some l) i = some m → (k = i ∧ l = m) ∨ (i ≠ k ∧ st.rounds i = some m) := fun i m h => by
    by_cases q : i = k
    · obtain rfl := q.symm; rw [Rk] at h; cases h; exact .inl ⟨rfl, rfl⟩
    · rw [Rn i q] at h; exact .inr ⟨q, h⟩
  -- what is left
  have c2 : ∀ j, j < n → ((B k).foldl (one l k) (set1 st rest l k src)).left j = ((A j).countP fun i => !odS (upd st.rounds k (some l) i) : Nat) := fun j hj => by
    rw [eL j]
    have h0 : (set1 st rest l k src).left j = ((A j).countP fun i => !odS (st.rounds i) : Nat) := I.c2 j hj
    rw [h0]
    by_cases ho : l % 2 = 1
    · rw [if_pos ho]
      have := countP_split (p := fun i => !odS (upd st.rounds k (some l) i)) (q := fun i => !odS (st.rounds i)) (k := k) (fun x hx => by simp only [Rn x hx]) (by simp only [Rk]; simp [odS, ho]) (by simp only [hr]; rfl) (A j)
      rw [this, b.cnt j k hj hk]
      omega
    · rw [if_neg ho]
      congr 1
      refine List.countP_congr fun x _ => ?_
      by_cases q : x = k
      · obtain rfl := q.symm; simp only [Rk, hr]; simp [odS]; omega
      · rw [Rn x q]
  have nn : ∀ j, 0 ≤ ((B k).foldl (one l k) (set1 st rest l k src)).left j := fun j => by
    by_cases hj : j < n
    · rw [c2 j hj]; omega
    · rw [eL j]
      have hz : (B k).count j = 0 := List.count_eq_zero.mpr fun q => hj (b.lt' k hk j q)
      rw [hz]
      have := I.c2' j hj
      have h0 : (set1 st rest l k src).left j = st.left j := rfl
      rw [h0]; split <;> omega
  have hold := fold_old l k (B k) (set1 st rest l k src)
  have hnew := fun z => fold_new l k (B k) (set1 st rest l k src) z nn
  have hpush := fold_push l k (B k) (set1 st rest l k src)
  have keep : ∀ z ∈ st.heap, z.2.1 ≠ k → z ∈ ((B k).foldl (one l k) (set1 st rest l k src)).heap := fun z h hne => by
    rcases (hmem z).mp h with q | q
    · rw [q] at hne; exact absurd rfl hne
    · exact hold z q
  -- if all that j moves to are won, none is left of j
  have zero : ∀ j, j < n → ((A j).countP fun i => !odS (upd st.rounds k (some l) i)) = 0 → ∀ i ∈ A j, ∃ m, upd st.rounds k (some l) i = some m ∧ m % 2 = 1 := fun j hj h i hi => by
    have := List.countP_eq_zero.mp h i hi
    simp only [Bool.not_eq_true, Bool.not_eq_false'] at this
    exact odS_iff.mp this
  refine ⟨fun z h => ?_, fold_HI l k (B k) _ hHI, fun i m h => ?_, fun i m h => ?_, fun lv j s h => ?_, fun z h i m hi => ?_, fun j hj h => ?_, fun j hj i hi m a c => ?_, fun j hj => ?_, fun j _ => nn j, fun j hj ha hall => ?_, fun s e h1 h2 => ?_, fun e m h => ?_, fun s => ?_, fun s => ?_, fun i => ?_, ?_, ?_⟩
  · rcases hnew z h with q | ⟨j, hj, rfl, _, _⟩
    · exact I.b0 z (sub z q)
    · exact ⟨b.lt' k hk j hj, hk⟩
  · rw [eR] at h
    rcases Rnew i m h with ⟨rfl, rfl⟩ | ⟨_, q⟩
    · exact hk
    · exact I.rl i m q
  · rw [eR] at h
    rcases Rnew i m h with ⟨rfl, rfl⟩ | ⟨_, q⟩
    · exact dk
    · exact I.i1 i m q
  · simp only [eR]
    rcases hnew _ h with q | ⟨j', hj', e, hn', hz⟩
    · rcases I.i2 lv j s (sub _ q) with q | ⟨m, a, c, d, e⟩
      · exact .inl q
      · refine .inr ⟨m, a, c, Rold _ _ d, fun ho i hi => ?_⟩
        obtain ⟨m', x, y, z⟩ := e ho i hi
        exact ⟨m', Rold _ _ x, y, z⟩
    · cases e
      have hj := b.lt' k hk j hj'
      refine .inr ⟨l, rfl, (b.mem hj hk).mpr hj', Rk, fun ho i hi => ?_⟩
      have hz' := hz.resolve_left (by omega)
      rw [c2 j hj] at hz'
      obtain ⟨m', x, y⟩ := zero j hj (by omega) i hi
      refine ⟨m', x, y, ?_⟩
      rcases Rnew i m' x with ⟨_, rfl⟩ | ⟨_, q⟩
      · exact Nat.le_refl _
      · exact I.i4 _ hm i m' q
  · rw [eR] at hi
    have hlz : l ≤ z.1 := by
      rcases hnew z h with q | ⟨j, _, rfl, _, _⟩
      · exact hl z (sub z q)
      · exact Nat.le_succ l
    rcases Rnew i m hi with ⟨_, rfl⟩ | ⟨_, q⟩
    · exact hlz
    · exact Nat.le_trans (I.i4 _ hm i m q) hlz
  · rw [eR]
    by_cases q : j = k
    · obtain rfl := q.symm; left; rw [Rk]; exact fun z => nomatch z
    · rw [Rn j q]
      rcases I.c0 j hj h with r | r
      · exact .inl r
      · exact .inr (keep _ r q)
  · rw [eR] at a ⊢
    by_cases q : j = k
    · obtain rfl := q.symm; left; rw [Rk]; exact fun z => nomatch z
    · rw [Rn j q]
      rcases Rnew i m a with ⟨rfl, rfl⟩ | ⟨_, r⟩
      · cases er : st.rounds j with
        | some x => exact .inl fun z => nomatch z
        | none =>
          right
          refine hpush j ((b.mem hj hk).mp hi) ?_ (.inl c)
          show upd st.rounds k (some l) j = none
          rw [Rn j q]; exact er
      · rcases I.c1 j hj i hi m r c with r | r
        · exact .inl r
        · exact .inr (keep _ r q)
  · simp only [eR]; exact c2 j hj
  · simp only [eR] at hall ⊢
    by_cases q : j = k
    · obtain rfl := q.symm; left; rw [Rk]; exact fun z => nomatch z
    · rw [Rn j q]
      cases er : st.rounds j with
      | some x => exact .inl fun z => nomatch z
      | none =>
        right
        by_cases hkj : k ∈ A j
        · refine ⟨l + 1, k, hpush j ((b.mem hj hk).mp hkj) (by show upd st.rounds k (some l) j = none; rw [Rn j q]; exact er) (.inr ?_)⟩
          rw [c2 j hj]
          have : ((A j).countP fun i => !odS (upd st.rounds k (some l) i)) = 0 := List.countP_eq_zero.mpr fun i hi => by
            rw [odS_iff.mpr (hall i hi)]; decide
          omega
        · have old : ∀ i ∈ A j, ∃ m, st.rounds i = some m ∧ m % 2 = 1 := fun i hi => by
            obtain ⟨m, x, y⟩ := hall i hi
            rcases Rnew i m x with ⟨rfl, _⟩ | ⟨_, r⟩
            · exact absurd hi hkj
            · exact ⟨m, r, y⟩
          rcases I.c3 j hj ha old with r | ⟨x, y, r⟩
          · exact absurd er r
          · exact ⟨x, y, keep _ r q⟩
  · simp only [eR]
    rw [e2] at h1
    simp only [set1] at h1
    split at h1
    · rename_i hsk
      by_cases qs : s = src
      · subst qs
        rw [upd_at] at h1
        rcases List.mem_append.mp h1 with h1 | h1
        · obtain ⟨m, x, y, z⟩ := I.t1 s e h1 h2
          exact ⟨m, Rold _ _ x, Rold _ _ y, z⟩
        · rw [List.mem_singleton.mp h1] at h2 ⊢
          rcases I.i2 l k s hm with ⟨_, _, r⟩ | ⟨m, r, c, d, _⟩
          · exact absurd r hsk
          · exact ⟨m, by rw [Rk, r], Rold _ _ d, c⟩
      · rw [upd_ne qs] at h1
        obtain ⟨m, x, y, z⟩ := I.t1 s e h1 h2
        exact ⟨m, Rold _ _ x, Rold _ _ y, z⟩
    · obtain ⟨m, x, y, z⟩ := I.t1 s e h1 h2
      exact ⟨m, Rold _ _ x, Rold _ _ y, z⟩
  · rw [eR] at h
    rw [e2]
    simp only [set1]
    rcases Rnew e _ h with ⟨rfl, r⟩ | ⟨_, r⟩
    · rcases I.i2 l k src hm with ⟨r', _, _⟩ | ⟨m', r', c, d, _⟩
      · omega
      · have hne : src ≠ k := fun z => by rw [z, hr] at d; cases d
        refine ⟨src, hs, ?_, Ne.symm hne⟩
        rw [if_pos hne, upd_at]; simp
    · obtain ⟨s, x, y, z⟩ := I.t2 e m r
      refine ⟨s, x, ?_, z⟩
      split
      · by_cases qs : s = src
        · subst qs; rw [upd_at]; exact List.mem_append_left _ y
        · rw [upd_ne qs]; exact y
      · exact y
  · rw [e2]
    simp only [set1]
    obtain ⟨t, ht⟩ := I.t3 s
    split
    · by_cases qs : s = src
      · subst qs; rw [upd_at, ht]; exact ⟨t ++ [k], rfl⟩
      · rw [upd_ne qs]; exact ⟨t, ht⟩
    · exact ⟨t, ht⟩
  · rw [e2, e3]
    have h4 := I.t4 s
    simp only [set1, List.length_append, List.length_singleton]
    split
    · by_cases qs : s = src
      · subst qs; rw [upd_at, List.length_append, List.length_singleton]; omega
      · rw [upd_ne qs]; omega
    · omega
  · rw [eR, e3]
    simp only [set1, List.mem_append, List.mem_singleton, I.o1 i]
    constructor
    · rintro (⟨m, h⟩ | rfl)
      · exact ⟨m, Rold _ _ h⟩
      · exact ⟨l, Rk⟩
    · rintro ⟨m, h⟩
      rcases Rnew i m h with ⟨r, _⟩ | ⟨_, r⟩
      · exact .inr r.symm
      · exact .inl ⟨m, r⟩
  · rw [e3]
    simp only [eR]
    show (st.order ++ [k]).Pairwise _
    have old : ∀ a ∈ st.order, a ≠ k := fun a h q => by
      obtain ⟨m, r⟩ := (I.o1 a).mp h
      rw [q, hr] at r; cases r
    rw [List.pairwise_append]
    refine ⟨?_, List.pairwise_singleton _ _, fun a ha c hc x y hx hy => ?_⟩
    · refine List.Pairwise.imp_of_mem (fun {a c} ha hc h x y hx hy => ?_) I.o2
      rw [Rn a (old a ha)] at hx
      rw [Rn c (old c hc)] at hy
      exact h x y hx hy
    · rw [List.mem_singleton.mp hc, Rk] at hy
      cases hy
      rw [Rn a (old a ha)] at hx
      exact I.i4 _ hm a x hx
  · rw [e3]
    show (st.order ++ [k]).Nodup
    rw [List.nodup_append]
    refine ⟨I.o3, by simp, fun a ha c hc => ?_⟩
    rw [List.mem_singleton.mp hc]
    intro q
    obtain ⟨m, r⟩ := (I.o1 a).mp ha
    rw [q, hr] at r; cases r
/- how much is still to come -/
noncomputable def mu (n w : Nat) (st : St) : Nat := st.heap.length + w * (List.range n).countP fun k => (st.rounds k).isNone
theorem countP_upd {n k : Nat} (hk : k < n) {R : Nat → Option Nat} (hr : R k = none) (l : Nat) : (List.range n).countP (fun i => (upd R k (some l) i).isNone) + 1 ≤ (List.range n).countP (fun i => (R i).isNone) := by
  refine countP_lt (fun x _ hx => ?_) ⟨k, List.mem_range.mpr hk, by rw [hr]; rfl, by rw [upd_at]; rfl⟩
  by_cases q : x = k
  · obtain rfl := q.symm; rw [hr]; rfl
  · rw [upd_ne q] at hx; exact hx
theorem turn_mu {A B : Nat → List Nat} {n w : Nat} {st : St} (b : Brd A B n w) {l k src : Nat} {rest : List N3} (hk : k < n) (hlen : rest.length + 1 = st.heap.length) : mu n w (turnS B st (l, k, src) rest) + 1 ≤ mu n w st := by
  unfold turnS mu
  dsimp only
  split
  · rename_i hr
    have h1 := fold_len l k (B k) (set1 st rest l k src)
    have h2 := b.len k hk
    have h3 := countP_upd hk hr l
    obtain ⟨e1, _, _⟩ := fold_same l k (B k) (set1 st rest l k src)
    rw [e1]
    have h4 : (set1 st rest l k src).heap.length = rest.length := rfl
    have h5 : (set1 st rest l k src).rounds = upd st.rounds k (some l) := rfl
    rw [h5]
    have h6 := Nat.mul_le_mul_left w h3
    rw [Nat.mul_add, Nat.mul_one] at h6
    omega
  · dsimp only; omega
end Mine
namespace Mine
noncomputable def hsI (A : Nat → List Nat) (i : Nat) : List N3 := (List.range i).foldl (fun h k => if A k = [] then hpush ltN h (0, k, k) else h) []
theorem hsI_succ (A : Nat → List Nat) (i : Nat) : hsI A (i + 1) = if A i = [] then hpush ltN (hsI A i) (0, i, i) else hsI A i := by
  unfold hsI; rw [List.range_succ, List.foldl_append]; rfl
theorem hsI_mem (A : Nat → List Nat) : ∀ (i : Nat) (z : N3), z ∈ hsI A i ↔ ∃ k, k < i ∧ A k = [] ∧ z = (0, k, k)
  | 0, z => by simp [hsI]
  | i + 1, z => by
    rw [hsI_succ]
    split
    · rename_i h
      rw [hpush_mem, hsI_mem A i]
      constructor
      · rintro (⟨k, a, b, c⟩ | rfl)
        · exact ⟨k, by omega, b, c⟩
        · exact ⟨i, by omega, h, rfl⟩
      · rintro ⟨k, a, b, c⟩
        by_cases q : k = i
        · obtain rfl := q.symm; exact .inr c
        · exact .inl ⟨k, by omega, b, c⟩
    · rename_i h
      rw [hsI_mem A i]
      constructor
      · rintro ⟨k, a, b, c⟩; exact ⟨k, by omega, b, c⟩
      · rintro ⟨k, a, b, c⟩
        by_cases q : k = i
        · obtain rfl := q.symm; exact absurd b h
        · exact ⟨k, by omega, b, c⟩
theorem hsI_HI (A : Nat → List Nat) : ∀ i, HI ltN (hsI A i)
  | 0 => fun i a p _ h => by simp [hsI] at h
  | i + 1 => by
    rw [hsI_succ]
    split
    · exact hpush_HI ltN_ord (hsI_HI A i) _
    · exact hsI_HI A i
theorem hsI_len (A : Nat → List Nat) : ∀ i, (hsI A i).length ≤ i
  | 0 => Nat.le_refl _
  | i + 1 => by
    rw [hsI_succ]
    have := hsI_len A i
    split
    · rw [hpush_len]; omega
    · omega
noncomputable def stI (A : Nat → List Nat) (n : Nat) : St := { heap := hsI A n, left := fun k => ((A k).length : Int), rounds := fun _ => none, fam := fun k => [k], order := [] }
theorem Inv.init (A : Nat → List Nat) (n : Nat) : Inv A n (stI A n) where
  b0 z hz := by obtain ⟨k, a, b, rfl⟩ := (hsI_mem A n z).mp hz; exact ⟨a, a⟩
  hp := hsI_HI A n
  rl k m h := by cases h
  i1 k m h := by cases h
  i2 l j src h := by obtain ⟨k, a, b, e⟩ := (hsI_mem A n _).mp h; cases e; exact .inl ⟨rfl, b, rfl⟩
  i4 z _ k m h := by cases h
  c0 k hk h := .inr ((hsI_mem A n _).mpr ⟨k, hk, h, rfl⟩)
  c1 k _ j _ m h := by cases h
  c2 k _ := by
    show ((A k).length : Int) = _
    have : (A k).countP (fun i => !odS none) = (A k).length := List.countP_eq_length.mpr fun _ _ => rfl
    rw [← this]; rfl
  c2' k _ := by show (0 : Int) ≤ ((A k).length : Int); omega
  c3 k _ hne h := by
    exfalso
    cases e : A k with
    | nil => exact hne e
    | cons x xs => obtain ⟨m, q, _⟩ := h x (by rw [e]; exact .head _); cases q
  t1 s e h hne := by have : e = s := by simpa [stI] using h
                     exact absurd this hne
  t2 e m h := by cases h
  t3 s := ⟨[], rfl⟩
  t4 s := Nat.le_refl 1
  o1 k := ⟨fun h => (nomatch h), fun ⟨m, h⟩ => (nomatch h)⟩
  o2 := .nil
  o3 := .nil
/- what a whole turn keeps -/
theorem Inv.turn {A B : Nat → List Nat} {n w : Nat} {st : St} (b : Brd A B n w) (I : Inv A n st) {ys : List N3} {z : N3} {t : N3} {rest : List N3} (hz : st.heap = ys ++ [z]) (hp : hpop ltN ys z = (t, rest)) :
    Inv A n (turnS B st t rest) ∧ mu n w (turnS B st t rest) < mu n w st := by
  obtain ⟨l, k, src⟩ := t
  have hmem : ∀ y, y ∈ st.heap ↔ y = (l, k, src) ∨ y ∈ rest := fun y => by rw [hz, hpop_mem ltN, hp]
  have hHI : HI ltN rest := by
    have := hpop_HI ltN_ord (ys := ys) (l := z) (by rw [← hz]; exact I.hp)
    rw [hp] at this; exact this
  have hl : ∀ y ∈ st.heap, l ≤ y.1 := fun y hy => by
    have h0 := hpop_first ltN ys z
    rw [← hz, hp] at h0
    have := HI_min ltN_ord ltN_irr I.hp h0 y hy
    rw [Bool.eq_false_iff, ne_eq, ltN_iff] at this
    dsimp only at this
    omega
  have hm : (l, k, src) ∈ st.heap := (hmem _).mpr (.inl rfl)
  refine ⟨?_, turn_mu b (I.b0 _ hm).1 ?_⟩
  · unfold turnS
    dsimp only
    split
    · rename_i hr; exact I.set b hmem hHI hl hr
    · rename_i hr; exact I.skip hmem hHI hr
  · have := hpop_len ltN ys z
    rw [hp] at this
    rw [hz, List.length_append, List.length_singleton, ← this]
/- at the end: all is as looking ahead tells -/
theorem Inv.done {A : Nat → List Nat} {n : Nat} {st : St} (I : Inv A n st) (hA : ∀ k, k < n → ∀ j ∈ A k, j < n) (he : st.heap = []) : ∀ k, k < n → st.rounds k = told A n k := by
  intro k hk
  cases e : st.rounds k with
  | some m =>
    have d := I.i1 k m e
    exact (d.up (d.bound hA hk)).symm
  | none =>
    cases q : told A n k with
    | none => rfl
    | some m =>
      have := I.below hA (l := m + 1) (fun z hz => by rw [he] at hz; cases hz) m (Nat.lt_succ_self _) k hk (D.of q)
      rw [e] at this; cases this
theorem nodup_len : ∀ (n : Nat) (l : List Nat), l.Nodup → (∀ x ∈ l, x < n) → l.length ≤ n
  | 0, l, _, h => by cases l with | nil => exact Nat.le_refl _ | cons x xs => exact absurd (h x (.head _)) (Nat.not_lt_zero _)
  | n + 1, l, hn, h => by
    have h1 := nodup_len n (l.filter fun x => x != n) (hn.filter _) fun x hx => by
      obtain ⟨a, b⟩ := List.mem_filter.mp hx
      have := h x a
      have b' : x ≠ n := by simpa using b
      omega
    have h2 : l.length ≤ (l.filter fun x => x != n).length + 1 := by
      clear h1 h
      induction l with
      | nil => simp
      | cons x xs ih =>
        obtain ⟨hx, hxs⟩ := List.nodup_cons.mp hn
        rw [List.filter_cons]
        by_cases q : x = n
        · obtain rfl := q.symm
          rw [if_neg (by simp)]
          have : xs.filter (fun y => y != n) = xs := List.filter_eq_self.mpr fun y hy => by
            have : y ≠ n := fun q => hx (q ▸ hy)
            simpa using this
          rw [this]; simp
        · rw [if_pos (by simpa using q)]
          have := ih hxs
          simp only [List.length_cons]
          omega
    omega
theorem Inv.order_len {A : Nat → List Nat} {n : Nat} {st : St} (I : Inv A n st) : st.order.length ≤ n := nodup_len n _ I.o3 fun k hk => by
  obtain ⟨m, h⟩ := (I.o1 k).mp hk
  exact I.rl k m h
end Mine
end
section
open PySem PySem.W PyProof.Rows PySem.Calls PySem.Builtin
set_option maxHeartbeats 8000000
namespace Mine
variable [Bs]
noncomputable def toI (t : N3) : It := ((t.1 : Int), (t.2.1 : Int), (t.2.2 : Int))
theorem toI_lt (a b : N3) : ltI (toI a) (toI b) = ltN a b := by
  have h1 : ∀ x y : Nat, decide ((x : Int) < (y : Int)) = decide (x < y) := fun x y => decide_eq_decide.mpr Int.ofNat_lt
  have h2 : ∀ x y : Nat, decide ((x : Int) = (y : Int)) = decide (x = y) := fun x y => decide_eq_decide.mpr Int.ofNat_inj
  unfold ltI ltN toI
  dsimp only
  rw [h1, h1, h1, h2, h2]
noncomputable def HR (h : Heap) (hl bad : Addr) (hs : List N3) : Prop := ∃ zs : List Cell, Ls h hl (vals zs) ∧ zs.map (·.2) = hs.map toI ∧ ∀ z ∈ zs, ∃ a t1 t2 t3, z.1 = .ref a ∧ a ≠ bad ∧ 114 < a ∧ h.IsTuple a #[.int z.2.1 t1, .int z.2.2.1 t2, .int z.2.2.2 t3]
theorem HR.ext {X : Addr → Prop} {h h' : Heap} {hl bad : Addr} {hs : List N3} (x : HR h hl bad hs) (e : Ext X h h') (n : ¬ X hl) (nt : ∀ a xs, h.IsTuple a xs → 114 < a → a ≠ bad → ¬ X a) : HR h' hl bad hs := by
  obtain ⟨zs, a, b, c⟩ := x
  refine ⟨zs, a.ext e n, b, fun z hz => ?_⟩
  obtain ⟨a, t1, t2, t3, e1, e2, e3, e4⟩ := c z hz
  exact ⟨a, t1, t2, t3, e1, e2, e3, IsTuple.ext e4 e (nt a _ e4 e3 e2)⟩
theorem HR.bad {h : Heap} {hl bad bad' : Addr} {hs : List N3} (x : HR h hl bad hs) (n : h.objs.size ≤ bad' ∨ bad' ≤ 114) : HR h hl bad' hs := by
  obtain ⟨zs, a, b, c⟩ := x
  refine ⟨zs, a, b, fun z hz => ?_⟩
  obtain ⟨a, t1, t2, t3, e1, e2, e3, e4⟩ := c z hz
  refine ⟨a, t1, t2, t3, e1, fun q => ?_, e3, e4⟩
  obtain ⟨o, ho, _⟩ := e4
  have := Heap.lt_size ho
  subst q
  rcases n with n | n
  · exact absurd this (Nat.not_lt.mpr n)
  · exact absurd e3 (Nat.not_lt.mpr n)
theorem tupNs {h : Heap} {a : Addr} {xs : Array Value} {m : Str → Option Value} (x : h.IsTuple a xs) (y : h.Ns a m) : False := by
  obtain ⟨o, ho, hc, n, hd⟩ := x
  obtain ⟨o', es, ep, ho', hd', _⟩ := y
  rw [ho] at ho'; cases ho'; rw [hd] at hd'; cases hd'
theorem tupLI {h : Heap} {a : Addr} {xs : Array Value} (x : h.IsTuple a xs) (y : LI h a) : False := by
  obtain ⟨o, ho, hc, n, hd⟩ := x
  obtain ⟨o', vs, ho', hc', hd', _⟩ := y
  rw [ho] at ho'; cases ho'; rw [hd] at hd'; cases hd'
theorem ltC_snd (a b : Cell) : ltI a.2 b.2 = ltC a b := rfl
section
variable {w : World} {mg mb : Str → Option Value} {A : Around} {s : Shared} {hl bad a : Addr} {hs : List N3} {l j k : Nat} {t1 t2 t3 : Tok}
inductive PuP [Bs] (r : Result) (s' : Shared) (s : Shared) (hl : Addr) (bad : Addr) (hs : List N3) (l : Nat) (j : Nat) (k : Nat) : Prop
  | mk (h' : _) (tk : _) (e0 : r = .ok (.ret .none)) (e1 : s' = { s with heap := h', toks := tk }) (e2 : Ext (At hl) s.heap h') (e3 : HR h' hl bad (hpush ltN hs (l, j, k))) : PuP r s' s hl bad hs l j k
theorem pushHR (G : Gd w mg mb s.heap) (R : Rm A 7) (hhi : Hi hl) (H : HR s.heap hl bad hs) (hlen : hs.length < 1000) (ha : a ≠ bad) (ha' : 114 < a) (ht : s.heap.IsTuple a #[.int (l : Nat) t1, .int (j : Nat) t2, .int (k : Nat) t3]) :
    codeAny (model PG w) A (.call (.ref 43) ⟨[.ref hl, .ref a], []⟩) (fun r s' => PuP r s' s hl bad hs l j k) s := by
  obtain ⟨zs, L, e, c⟩ := H
  have hzl : zs.length = hs.length := by have := congrArg List.length e; simpa using this
  refine codeAny_mono (heappush_spec (z := (.ref a, toI (l, j, k))) G R hhi L (fun z hz => ?_) (by omega) ⟨a, t1, t2, t3, rfl, ht⟩) fun r s' q => ?_
  · obtain ⟨a, t1, t2, t3, e1, _, _, e4⟩ := c z hz
    exact ⟨a, t1, t2, t3, e1, e4⟩
  · obtain ⟨h', tk, rfl, rfl, x, L'⟩ := q
    refine ⟨h', tk, rfl, rfl, x, _, L', ?_, fun z hz => ?_⟩
    · have e1 := hpush_map (lt := ltC) (lt' := ltI) (f := fun z : Cell => z.2) (fun a b => rfl) zs (.ref a, toI (l, j, k))
      have e2 := hpush_map (lt := ltN) (lt' := ltI) (f := toI) toI_lt hs (l, j, k)
      rw [← e1, ← e2, e]
    · rcases (hpush_mem _ _ _ _).mp hz with hz | rfl
      · obtain ⟨a, t1, t2, t3, e1, e2, e3, e4⟩ := c z hz
        exact ⟨a, t1, t2, t3, e1, e2, e3, IsTuple.ext e4 x fun q => isTuple_ne e4 L q⟩
      · exact ⟨a, t1, t2, t3, rfl, ha, ha', IsTuple.ext ht x fun q => isTuple_ne ht L q⟩
inductive PoP [Bs] (r : Result) (s' : Shared) (s : Shared) (hl : Addr) (ys : List N3) (z : N3) (bad : Addr) : Prop
  | mk (h' : _) (tk : _) (a : _) (t1 : _) (t2 : _) (t3 : _) (e0 : r = .ok (.ret (.ref a))) (e1 : s' = { s with heap := h', toks := tk }) (e2 : Ext (At hl) s.heap h') (e3 : 114 < a) (e4 : h'.IsTuple a #[.int ((hpop ltN ys z).1.1 : Nat) t1, .int ((hpop ltN ys z).1.2.1 : Nat) t2, .int ((hpop ltN ys z).1.2.2 : Nat) t3]) (e5 : HR h' hl bad (hpop ltN ys z).2) : PoP r s' s hl ys z bad
theorem popHR {ys : List N3} {z : N3} (G : Gd w mg mb s.heap) (R : Rm A 7) (hhi : Hi hl) (H : HR s.heap hl bad (ys ++ [z])) (hlen : ys.length < 1000) :
    codeAny (model PG w) A (.call (.ref 50) ⟨[.ref hl], []⟩) (fun r s' => PoP r s' s hl ys z bad) s := by
  obtain ⟨zs, L, e, c⟩ := H
  obtain ⟨zs', c', rfl⟩ : ∃ zs' c', zs = zs' ++ [c'] := by
    have hne : zs ≠ [] := fun q => by rw [q] at e; simp at e
    exact ⟨zs.dropLast, zs.getLast hne, (List.dropLast_concat_getLast hne).symm⟩
  rw [List.map_append, List.map_append] at e
  obtain ⟨e1, e2⟩ := List.append_inj' e rfl
  have e2' : c'.2 = toI z := by simpa using e2
  have hzl : zs'.length = ys.length := by have := congrArg List.length e1; simpa using this
  have m1 := hpop_map (lt := ltC) (lt' := ltI) (f := fun z : Cell => z.2) (fun a b => rfl) zs' c'
  have m2 := hpop_map (lt := ltN) (lt' := ltI) (f := toI) toI_lt ys z
  have m3 : hpop ltI (zs'.map (·.2)) c'.2 = hpop ltI (ys.map toI) (toI z) := by rw [e1, e2']
  rw [m1, m2] at m3
  have m4 : (hpop ltC zs' c').1.2 = toI (hpop ltN ys z).1 := congrArg Prod.fst m3
  have m5 : (hpop ltC zs' c').2.map (·.2) = (hpop ltN ys z).2.map toI := congrArg Prod.snd m3
  refine codeAny_mono (heappop_spec (z := c') G R hhi L (fun z hz => ?_) (by omega)) fun r s' q => ?_
  · obtain ⟨a, t1, t2, t3, e1, _, _, e4⟩ := c z hz
    exact ⟨a, t1, t2, t3, e1, e4⟩
  · obtain ⟨h', tk, rfl, rfl, x, L'⟩ := q
    obtain ⟨a, t1, t2, t3, f1, f2, f3, f4⟩ := c (hpop ltC zs' c').1 ((hpop_mem ltC zs' c' _).mpr (.inl rfl))
    refine ⟨h', tk, a, t1, t2, t3, by rw [f1], rfl, x, f3, ?_, (hpop ltC zs' c').2, L', m5, fun z hz => ?_⟩
    · rw [m4] at f4
      exact IsTuple.ext f4 x fun q => isTuple_ne f4 L q
    · obtain ⟨a, t1, t2, t3, e1, e2, e3, e4⟩ := c z ((hpop_mem ltC zs' c' _).mpr (.inr hz))
      exact ⟨a, t1, t2, t3, e1, e2, e3, IsTuple.ext e4 x fun q => isTuple_ne e4 L q⟩
end
end Mine
end
section
open PySem PySem.W PyProof.Rows PySem.Calls PySem.Builtin
set_option maxHeartbeats 8000000
namespace Mine
variable [Bs]
section
variable {w : World} {A : Around} {E : Value → Shared → Prop} {s : Shared} {env : Env} {mg mb : Str → Option Value}
theorem newT {vs : List Value} {Q : Value → Shared → Prop} (hlen : vs.length < 100) (h : ∀ D h', D = s.heap.objs.size → h'.IsTuple D vs.toArray → Ext Non s.heap h' → Q (.ref D) { s with heap := h' }) : wpAny (model PG w) A (newTuple vs) Q E s :=
  wpAny_newObj_type (h _ _ rfl ⟨_, Heap.get?_push_size _ rfl, rfl, _, rfl⟩ (Ext.push _ _ _)) (by show vs.toArray.size ≤ sizeLine; rw [List.size_toArray, sizeLine_eq]; omega)
theorem eqNil {l e : Addr} {ks : List Nat} {Q : Value → Shared → Prop} (hl : LN s.heap l ks) (he : Ls s.heap e []) (hu : A.units < cLine) (h : Q (.bool ks.isEmpty) s) : wpAny (model PG w) A (compareOp .Eq (.ref l) (.ref e)) Q E s := by
  obtain ⟨vs, L, a⟩ := hl
  cases ks with
  | nil =>
    have : vs = [] := List.eq_nil_of_length_eq_zero a.1
    subst this
    exact PySem.SeqAt.eq_listAt (e := fun _ => true) L.isList he.isList rfl hu (fun j h1 => absurd h1 (by simp)) h
  | cons k ks =>
    refine PySem.SeqAt.eq_list_lengthsAt L.isList he.isList ?_ hu h
    have e1 : vs.length = ks.length + 1 := a.1
    rw [bne_iff_ne, List.size_toArray, e1]
    exact Nat.succ_ne_zero _
theorem neNil {l e : Addr} {vs : List Value} {Q : Value → Shared → Prop} (L : Ls s.heap l vs) (he : Ls s.heap e []) (hu : A.units < cLine) (h : Q (.bool (!vs.isEmpty)) s) : wpAny (model PG w) A (compareOp .NotEq (.ref l) (.ref e)) Q E s := by
  cases vs with
  | nil => exact PySem.SeqAt.RcNeAt.lists (e := fun _ => true) L.isList he.isList rfl hu (fun j h1 => absurd h1 (by simp)) PG w E Q h
  | cons k ks => exact PySem.SeqAt.RcNeAt.lists_lengths L.isList he.isList (by simp) hu PG w E Q h
/- y = [elt for x in n], a list that is named, the values bear no heap -/
inductive SiE [Bs] (s₅ : Shared) (s : Shared) (h : Heap) (RR : Nat → Value → Prop) (i : Nat) (u : Value) : Prop
  | mk (h₅ : _) (tk₅ : _) (e0 : s₅ = { s with heap := h₅, toks := tk₅ }) (e1 : Ext Non h h₅) (e2 : RR i u) : SiE s₅ s h RR i u
theorem AssignCompL0 {elt : Expr} {x y n : Str} {px py pn : Pos} {scope : Scope} {cl : List (Str × Addr)} {pos spos : Pos} {Q : Flow → Shared → Prop} {m : List (Str × Value)} {l : Addr} {vs : List Value} (RR : Nat → Value → Prop)
    (hsw : swapsWith (.ListComp elt [⟨.Name x px, .Name n pn, [], 0⟩] scope pos) (some (.Name y py)) spos.line env = pure true)
    (hclos : closureFor scope env = pure cl) (hcell : ∀ y ∈ scope.names, y.2 ≠ .cell) (hkind : scope.kind = .function) (hnames : ∀ y ∈ scope.names, y.2 = .local → scope.names.lookup y.1 = some .local) (hx : scope.names.lookup x = some .local)
    (hh : A.handled = none) (F : Loc s.heap env.locals m) (hn : m.lookup n = some (.ref l)) (hl : Ls s.heap l vs) (hlen : vs.length < 1000)
    (step : ∀ (C : Addr) i v h tk mm, vs[i]? = some v → Ext Non s.heap h → h.Ns C mm → mm x = some v → wpAny (model PG w) A (eval elt (compEnvC scope cl C env)) (fun u s₅ => SiE s₅ s h RR i u) NoE { s with heap := h, toks := tk })
    (h : ∀ D h' tk us, s.heap.objs.size ≤ D → Loc h' env.locals ((y, .ref D) :: m) → Ext (At env.locals) s.heap h' → Ls h' D us → us.length = vs.length → (∀ i u, us[i]? = some u → RR i u) → Q .next { s with heap := h', toks := tk })
    (hk : env.scope.kind = .function := by rfl) (hly : env.kindOf y = some .local := by rfl) (hln : env.kindOf n = some .local := by rfl) (hd : (n == ("__debug__" : Str)) = false := by decide) :
    wpAny (model PG w) A (exec (.Assign [.Name y py] (.ListComp elt [⟨.Name x px, .Name n pn, [], 0⟩] scope pos) spos) env) Q E s := by
  refine AssignComp_ (l := m) hsw hclos hcell hkind hnames hx ?_ (by intro _; rfl) hk hly
  refine Loc.name F hn ?_ hk hln hd
  refine wpAny_pyIter_list hl.isList ?_
  have x₂ : Ext Non s.heap (s.heap.push { cls := .type "list_iterator", data := .fields #[.ref l, .int 0 0] }) := Ext.push _ _ _
  have hit : (s.heap.push { cls := .type "list_iterator", data := .fields #[.ref l, .int 0 0] }).IsListIter s.heap.objs.size l 0 := ⟨_, Heap.get?_push_size _ rfl, rfl, rfl⟩
  have hsz : (s.heap.push { cls := .type "list_iterator", data := .fields #[.ref l, .int 0 0] }).objs.size = s.heap.objs.size + 1 := Heap.size_push ..
  generalize s.heap.push { cls := .type "list_iterator", data := .fields #[.ref l, .int 0 0] } = h₂ at x₂ hit hsz ⊢
  have F₂ := F.ext x₂ id
  have hl₂ := hl.ext x₂ id
  have ltL := F.lt
  have ltl := hl.lt
  refine ⟨_, _, _, listFeed (s := { s with heap := h₂ }) hh hl₂ hit, by rw [List.length_map]; exact Nat.lt_trans hlen (by decide), fun s' Q E x q => wpAny_pyIter_listiter (itExt hit x id) q, let ⟨o, _, _, ho, _⟩ := F₂; ⟨o, ho⟩, fun C D hC hD hDC hDs hCs => ?_⟩
  have hDs' : D = s.heap.objs.size + 1 := by rw [hDs]; exact hsz
  have hCs' : C = s.heap.objs.size + 1 + 1 := by rw [hCs]; show h₂.objs.size + 1 = _; rw [hsz]
  have nLD : env.locals ≠ D := by rw [hDs']; exact Nat.ne_of_lt (Nat.lt_succ_of_lt ltL)
  have nLC : env.locals ≠ C := by rw [hCs']; exact Nat.ne_of_lt (Nat.lt_succ_of_lt (Nat.lt_succ_of_lt ltL))
  have nLI : env.locals ≠ s.heap.objs.size := Nat.ne_of_lt ltL
  have nlD : l ≠ D := by rw [hDs']; exact Nat.ne_of_lt (Nat.lt_succ_of_lt ltl)
  have nlC : l ≠ C := by rw [hCs']; exact Nat.ne_of_lt (Nat.lt_succ_of_lt (Nat.lt_succ_of_lt ltl))
  have nID : s.heap.objs.size ≠ D := by rw [hDs']; exact Nat.ne_of_lt (Nat.lt_succ_self _)
  have nIC : s.heap.objs.size ≠ C := by rw [hCs']; exact Nat.ne_of_lt (Nat.lt_succ_of_lt (Nat.lt_succ_self _))
  have hh0 : ∀ {h : Heap}, Ext (fun b => b = s.heap.objs.size) h₂ h → Ext Non s.heap h := fun e => x₂.st e (Nat.le_refl _)
  refine compOkE (s₂ := { s with heap := h₂ }) (I := s.heap.objs.size) (fun i u _ => RR i u) (by show s.heap.objs.size < h₂.objs.size; rw [hsz]; exact Nat.lt_succ_self _) hDs hCs (fun s s' e => e.mono fun b q => ?_) (fun i u h h' r _ => r) (fun i p v h tk mm hp hy e hsz' nC mx => ?_) (fun ys h9 tk e LD hlen' hr mC => ?_) (by rw [List.length_map]; exact Nat.lt_trans hlen (by decide))
  · rcases q with q | q <;> obtain rfl := q.symm
    · exact ⟨Ne.symm nIC, Ne.symm nlC⟩
    · exact ⟨Ne.symm nID, Ne.symm nlD⟩
  · obtain ⟨v', hv, rfl⟩ : ∃ v, vs[i]? = some v ∧ (fun z => z = v) = p := by
      rw [List.getElem?_map] at hp
      cases e : vs[i]? with
      | none => rw [e] at hp; cases hp
      | some v => rw [e] at hp; exact ⟨v, rfl, Option.some.inj hp⟩
    have hy' : v = v' := hy
    subst hy'
    exact wpAny_mono (step C i v h tk mm hv (hh0 e) nC mx) (fun _ _ q => by obtain ⟨a, b, c, d, e⟩ := q; exact ⟨a, b, c, d, e⟩) fun _ _ q => q
  · have e0 := hh0 e
    refine ⟨F.ext e0 id, fun h' F' e' => ?_⟩
    refine h D h' _ ys (by rw [hDs']; exact Nat.le_succ _) F' ?_ (LD.ext e' fun q => ?_) (by rw [hlen', List.length_map]) hr
    · refine (e0.mono fun _ q => q.elim).step e' fun a o ea q => ?_
      rcases q with q | q
      · exact q
      · exact absurd (Heap.lt_size ea) (by rw [q, hCs']; exact Nat.not_lt.mpr (Nat.le_succ_of_le (Nat.le_succ _)))
    · rcases q with q | q
      · exact nLD q.symm
      · exact hDC q
end
end Mine
end
section
open PySem PySem.W PyProof.Rows PySem.Calls PySem.Builtin
set_option maxHeartbeats 8000000
namespace Mine
variable [Bs]
section
variable {w : World} {A : Around} {E : Value → Shared → Prop} {s : Shared} {env : Env} {mg mb : Str → Option Value}
theorem nsName {M : Model} {x : Str} {pos : Pos} {mm : Str → Option Value} {v : Value} {Q : Value → Shared → Prop} (F : s.heap.Ns env.locals mm) (hv : mm x = some v) (h : Q v s)
    (hk : env.scope.kind = .function := by rfl) (hl : env.kindOf x = some .local := by rfl) (hd : (x == ("__debug__" : Str)) = false := by decide) : wpAny M A (eval (.Name x pos) env) Q E s := wpAny_Name (wpAny_loadName_local hk hl F hv h) hd
/- y = [[x] for x in range(len(n))] -/
theorem AssignCompR {x y n : Str} {px py pn pe pl p1 p2 p3 p4 : Pos} {scope : Scope} {cl : List (Str × Addr)} {pos spos : Pos} {Q : Flow → Shared → Prop} {m : List (Str × Value)} {l : Addr} {vs : List Value} (G : Gd w mg mb s.heap)
    (hsw : swapsWith (.ListComp (.List [.Name x pe] pl) [⟨.Name x px, .Call (.Name (Str.ofString "range") p1) [.Call (.Name (Str.ofString "len") p2) [.Name n pn] [] p3] [] p4, [], 0⟩] scope pos) (some (.Name y py)) spos.line env = pure true)
    (hclos : closureFor scope env = pure cl) (hcell : ∀ y ∈ scope.names, y.2 ≠ .cell) (hkind : scope.kind = .function) (hnames : ∀ y ∈ scope.names, y.2 = .local → scope.names.lookup y.1 = some .local) (hx : scope.names.lookup x = some .local)
    (hh : A.handled = none) (F : Loc s.heap env.locals m) (hn : m.lookup n = some (.ref l)) (hl : Ls s.heap l vs) (hlen : vs.length < 1000)
    (hxd : (x == ("__debug__" : Str)) = false)
    (h : ∀ D h' tk us, s.heap.objs.size ≤ D → Loc h' env.locals ((y, .ref D) :: m) → Ext (At env.locals) s.heap h' → Ls h' D us → us.length = vs.length → (∀ i u, us[i]? = some u → ∃ a, u = .ref a ∧ D < a ∧ LN h' a [i]) → Q .next { s with heap := h', toks := tk })
    (hk : env.scope.kind = .function := by rfl) (hly : env.kindOf y = some .local := by rfl) (hln : env.kindOf n = some .local := by rfl) (hd : (n == ("__debug__" : Str)) = false := by decide)
    (hlr : env.kindOf (Str.ofString "range") = some .globalImplicit := by rfl) (hll : env.kindOf (Str.ofString "len") = some .globalImplicit := by rfl) (hg : env.globals = mainGlobals := by rfl) (hb : env.builtins = builtinsNs := by rfl) :
    wpAny (model PG w) A (exec (.Assign [.Name y py] (.ListComp (.List [.Name x pe] pl) [⟨.Name x px, .Call (.Name (Str.ofString "range") p1) [.Call (.Name (Str.ofString "len") p2) [.Name n pn] [] p3] [] p4, [], 0⟩] scope pos) spos) env) Q E s := by
  refine AssignComp_ (l := m) hsw hclos hcell hkind hnames hx ?_ (by intro _; rfl) hk hly
  refine range_ G ?_ hk hlr hg hb
  refine len_ G ?_ hk hll hg hb
  refine Loc.name F hn ?_ hk hln hd
  refine ⟨l, vs, rfl, hl, Nat.lt_trans hlen (by decide), fun t tk => ⟨vs.length, t, rfl, fun r h₁ tk₁ t₁ t₂ t₃ hr IR x₁ hr1 => ?_⟩⟩
  have e : Builtin.Range.rangeSize 0 (vs.length : Nat) 1 = (vs.length : Int) := by rw [rangeSize_one]; split <;> omega
  refine wpAny_pyIter_range IR (small_one (by omega) (by omega) (by omega) (by omega)) ?_
  rw [e]
  have x₂ : Ext Non h₁ (h₁.push { cls := .type "range_iterator", data := .fields #[rawInt 0, rawInt (vs.length : Nat), rawInt 1] }) := Ext.push _ _ _
  have hit : IsRangeIter (h₁.push { cls := .type "range_iterator", data := .fields #[rawInt 0, rawInt (vs.length : Nat), rawInt 1] }) h₁.objs.size 0 (vs.length : Nat) 1 := Heap.get?_push_size _ rfl
  have hsz : (h₁.push { cls := .type "range_iterator", data := .fields #[rawInt 0, rawInt (vs.length : Nat), rawInt 1] }).objs.size = h₁.objs.size + 1 := Heap.size_push ..
  have ltL := (F.ext x₁ id).lt
  have hr' : r = s.heap.objs.size := hr
  have hs1 : s.heap.objs.size ≤ h₁.objs.size := by rw [hr'] at hr1; exact Nat.le_of_lt hr1
  generalize h₁.push { cls := .type "range_iterator", data := .fields #[rawInt 0, rawInt (vs.length : Nat), rawInt 1] } = h₂ at x₂ hit hsz ⊢
  have F₂ := (F.ext x₁ id).ext x₂ id
  refine ⟨_, _, _, rangeFeed (s := { s with heap := h₂, toks := tk₁ }) hh hit, by rw [List.length_map, List.length_range]; exact Nat.lt_trans hlen (by decide), fun s' Q E x q => wpAny_pyIter_rangeiter (x.get hit id (.inr fun _ _ z => nomatch z)) q, let ⟨o, _, _, ho, _⟩ := F₂; ⟨o, ho⟩, fun C D hC hD hDC hDs hCs => ?_⟩
  have hDs' : D = h₁.objs.size + 1 := by rw [hDs]; exact hsz
  have hCs' : C = h₁.objs.size + 1 + 1 := by rw [hCs]; show h₂.objs.size + 1 = _; rw [hsz]
  have nLD : env.locals ≠ D := by rw [hDs']; exact Nat.ne_of_lt (Nat.lt_succ_of_lt ltL)
  have nLC : env.locals ≠ C := by rw [hCs']; exact Nat.ne_of_lt (Nat.lt_succ_of_lt (Nat.lt_succ_of_lt ltL))
  have nID : h₁.objs.size ≠ D := by rw [hDs']; exact Nat.ne_of_lt (Nat.lt_succ_self _)
  have nIC : h₁.objs.size ≠ C := by rw [hCs']; exact Nat.ne_of_lt (Nat.lt_succ_of_lt (Nat.lt_succ_self _))
  have hh0 : ∀ {h : Heap}, Ext (fun b => b = h₁.objs.size) h₂ h → Ext Non s.heap h := fun e => (x₁.non x₂).st e hs1
  refine compOkE (s₂ := { s with heap := h₂, toks := tk₁ }) (I := h₁.objs.size) (fun i u h => ∃ a, u = .ref a ∧ C < a ∧ LN h a [i]) (by show h₁.objs.size < h₂.objs.size; rw [hsz]; exact Nat.lt_succ_self _) hDs hCs (fun s s' e => e.mono fun b q => ?_) (fun i u h h' r e => ?_) (fun i p v h tk mm hp hy e hsz' nC mx => ?_) (fun ys h9 tk e LD hlen' hr mC => ?_) (by rw [List.length_map, List.length_range]; exact Nat.lt_trans hlen (by decide))
  · rcases q with q | q <;> obtain rfl := q.symm
    · exact Ne.symm nIC
    · exact Ne.symm nID
  · obtain ⟨a, e1, e2, e3⟩ := r
    refine ⟨a, e1, e2, e3.ext e fun q => ?_⟩
    have hDC' : D < C := by rw [hDs', hCs']; exact Nat.lt_succ_self _
    have hIC' : h₁.objs.size < C := by rw [hCs']; exact Nat.lt_succ_of_lt (Nat.lt_succ_self _)
    rcases q with q | q | q
    · rw [q] at e2; exact absurd e2 (Nat.lt_irrefl _)
    · rw [q] at e2; exact absurd e2 (Nat.not_lt.mpr (Nat.le_of_lt hDC'))
    · rw [q] at e2; exact absurd e2 (Nat.not_lt.mpr (Nat.le_of_lt hIC'))
  · obtain ⟨t, hv⟩ : ∃ t, v = .int (i : Nat) t := by
      rw [List.getElem?_map] at hp
      cases e : (List.range vs.length)[i]? with
      | none => rw [e] at hp; cases hp
      | some z =>
        have hz : z = i := by
          have := (List.getElem?_eq_some_iff.mp e)
          obtain ⟨hlt, he⟩ := this
          rw [List.getElem_range] at he; exact he.symm
        rw [e] at hp
        have := Option.some.inj hp
        rw [← this] at hy
        obtain ⟨t, q⟩ := hy
        exact ⟨t, by rw [q, hz]⟩
    subst hv
    refine List_ (args_cons (nsName (env := compEnvC scope cl C env) nC mx (args_nil ?_) hkind ?_ hxd))
    · refine newL (s := { s with heap := h, toks := tk }) (by show 1 < 2 ^ 22; decide) fun D' h' hD' L' e' => ⟨h', tk, rfl, e', D', rfl, ?_, _, L', .cons ⟨t, rfl⟩ .nil⟩
      rw [hD', hCs]; exact hsz'
    · exact lookup_relabel_local hx
  · have e0 := hh0 e
    refine ⟨F.ext e0 id, fun h' F' e' => ?_⟩
    refine h D h' _ ys (by rw [hDs']; exact Nat.le_succ_of_le hs1) F' ?_ (LD.ext e' fun q => ?_) (by rw [hlen', List.length_map, List.length_range]) fun i u hu => ?_
    · refine (e0.mono fun _ q => q.elim).step e' fun a o ea q => ?_
      rcases q with q | q
      · exact q
      · exact absurd (Heap.lt_size ea) (by rw [q, hCs']; exact Nat.not_lt.mpr (Nat.le_succ_of_le (Nat.le_succ_of_le hs1)))
    · rcases q with q | q
      · exact nLD q.symm
      · exact hDC q
    · obtain ⟨a, e1, e2, e3⟩ := hr i u hu
      refine ⟨a, e1, Nat.lt_trans (by rw [hDs', hCs']; exact Nat.lt_succ_self _) e2, e3.ext e' fun q => ?_⟩
      rcases q with q | q
      · rw [q] at e2; exact absurd e2 (Nat.not_lt.mpr (Nat.le_of_lt (by rw [hCs']; exact Nat.lt_succ_of_lt (Nat.lt_succ_of_lt ltL))))
      · rw [q] at e2; exact absurd e2 (Nat.lt_irrefl _)
end
end Mine
end
section
open PySem PySem.W PyProof.Rows PySem.Calls PySem.Builtin
set_option maxHeartbeats 8000000
namespace Mine
variable [Bs]
theorem tupNsE {h : Heap} {a L : Addr} {xs : Array Value} {m : Str → Option Value} (x : h.IsTuple a xs) (y : h.Ns L m) (q : a = L) : False := by subst q; exact tupNs x y
noncomputable def hs0 (A : Nat → List Nat) (i : Nat) : List N3 := (List.range i).foldl (fun h k => if A k = [] then hpush ltN h (0, k, k) else h) []
noncomputable def st0 (A : Nat → List Nat) : St := { heap := hs0 A 6, left := fun k => ((A k).length : Int), rounds := fun _ => none, fam := fun k => [k], order := [] }
theorem hs0_succ (A : Nat → List Nat) (i : Nat) : hs0 A (i + 1) = if A i = [] then hpush ltN (hs0 A i) (0, i, i) else hs0 A i := by
  unfold hs0; rw [List.range_succ, List.foldl_append]; rfl
theorem hs0_len (A : Nat → List Nat) : ∀ i, (hs0 A i).length ≤ i
  | 0 => Nat.le_refl _
  | i + 1 => by
    rw [hs0_succ]
    have := hs0_len A i
    split
    · rw [hpush_len]; omega
    · omega
/- the state in the heap -/
structure SR (h : Heap) (fa : Nat → Addr) (hl ll rl fl ol : Addr) (fs : List Value) (bad : Addr) (st : St) : Prop where
  hp : HR h hl bad st.heap
  lf : ∃ vs, Ls h ll vs ∧ All2 IV vs ((List.range 6).map st.left)
  rd : ∃ vs, Ls h rl vs ∧ All2 OVN vs ((List.range 6).map st.rounds)
  fm : Ls h fl fs
  fi : ∀ i, i < 6 → fs[i]? = some (.ref (fa i)) ∧ LN h (fa i) (st.fam i)
  od : Ls h ol (st.order.map fun k => .ref (fa k))
theorem SR.ext {X : Addr → Prop} {h h' : Heap} {fa : Nat → Addr} {hl ll rl fl ol bad : Addr} {fs : List Value} {st : St} (x : SR h fa hl ll rl fl ol fs bad st) (e : Ext X h h') (n1 : ¬ X hl) (n2 : ¬ X ll) (n3 : ¬ X rl) (n4 : ¬ X fl) (n5 : ¬ X ol) (n6 : ∀ i, i < 6 → ¬ X (fa i))
    (nt : ∀ a xs, h.IsTuple a xs → 114 < a → a ≠ bad → ¬ X a) : SR h' fa hl ll rl fl ol fs bad st where
  hp := x.hp.ext e n1 nt
  lf := let ⟨vs, a, b⟩ := x.lf; ⟨vs, a.ext e n2, b⟩
  rd := let ⟨vs, a, b⟩ := x.rd; ⟨vs, a.ext e n3, b⟩
  fm := x.fm.ext e n4
  fi := fun i hi => ⟨(x.fi i hi).1, (x.fi i hi).2.ext e (n6 i hi)⟩
  od := x.od.ext e n5
theorem SR.bad {h : Heap} {fa : Nat → Addr} {hl ll rl fl ol bad bad' : Addr} {fs : List Value} {st : St} (x : SR h fa hl ll rl fl ol fs bad st) (n : h.objs.size ≤ bad' ∨ bad' ≤ 114) : SR h fa hl ll rl fl ol fs bad' st := ⟨x.hp.bad n, x.lf, x.rd, x.fm, x.fi, x.od⟩
theorem HR.unbad {h : Heap} {hl bad : Addr} {hs : List N3} (x : HR h hl bad hs) : HR h hl 0 hs := by
  obtain ⟨zs, a, b, c⟩ := x
  refine ⟨zs, a, b, fun z hz => ?_⟩
  obtain ⟨a, t1, t2, t3, e1, e2, e3, e4⟩ := c z hz
  exact ⟨a, t1, t2, t3, e1, fun q => by rw [q] at e3; exact absurd e3 (by decide), e3, e4⟩
theorem SR.unbad {h : Heap} {fa : Nat → Addr} {hl ll rl fl ol bad : Addr} {fs : List Value} {st : St} (x : SR h fa hl ll rl fl ol fs bad st) : SR h fa hl ll rl fl ol fs 0 st := ⟨x.hp.unbad, x.lf, x.rd, x.fm, x.fi, x.od⟩
/- what is apart -/
structure AP (S : Nat) (fa : Nat → Addr) (hl ll rl fl ol : Addr) : Prop where
  h0 : S < hl
  h1 : hl < ll
  h2 : ll < rl
  h3 : rl < fl
  h4 : ∀ i, i < 6 → fl < fa i
  h5 : ∀ i, i < 6 → fa i < ol
  inj : ∀ i j, i < 6 → j < 6 → fa i = fa j → i = j
  hfo : fl < ol
theorem all2Range {α β : Type} {R : α → β → Prop} {us : List α} {n : Nat} {f : Nat → β} (hl : us.length = n) (h : ∀ i u, us[i]? = some u → R u (f i)) : All2 R us ((List.range n).map f) := by
  refine ⟨by rw [List.length_map, List.length_range]; exact hl, fun i x y hx hy => ?_⟩
  rw [List.getElem?_map] at hy
  cases e : (List.range n)[i]? with
  | none => rw [e] at hy; cases hy
  | some z =>
    obtain ⟨hlt, he⟩ := List.getElem?_eq_some_iff.mp e
    rw [List.getElem_range] at he
    rw [e] at hy; cases hy
    rw [← he]; exact h i x hx
theorem rangeAt {i z n : Nat} (e : (List.range n)[i]? = some z) : z = i ∧ i < n := by
  obtain ⟨hlt, he⟩ := List.getElem?_eq_some_iff.mp e
  rw [List.getElem_range] at he
  rw [List.length_range] at hlt
  exact ⟨he.symm, hlt⟩
theorem lnInj {h : Heap} {a : Addr} {ks ks' : List Nat} (x : LN h a ks) (y : LN h a ks') : ks = ks' := by
  obtain ⟨vs, L, p⟩ := x
  obtain ⟨vs', L', q⟩ := y
  have := L.inj L'
  subst this
  apply List.ext_getElem?
  intro i
  by_cases hi : i < vs.length
  · obtain ⟨u, hu⟩ : ∃ u, vs[i]? = some u := ⟨_, List.getElem?_eq_getElem hi⟩
    obtain ⟨a, ha, t, e⟩ := p.at' hu
    obtain ⟨b, hb, t', e'⟩ := q.at' hu
    rw [ha, hb]
    rw [e] at e'
    injection e' with e1 e2
    rw [Int.ofNat_inj.mp e1]
  · rw [List.getElem?_eq_none (by have := p.1; omega), List.getElem?_eq_none (by have := q.1; omega)]
noncomputable def faOf (fs : List Value) (i : Nat) : Addr := match fs[i]? with | some (.ref a) => a | _ => 0
theorem All2.set {α β : Type} {R : α → β → Prop} {xs : List α} {ys : List β} (a : All2 R xs ys) {x : α} {y : β} (h : R x y) (i : Nat) : All2 R (xs.set i x) (ys.set i y) := by
  refine ⟨by rw [List.length_set, List.length_set]; exact a.1, fun j u v hu hv => ?_⟩
  rw [getElem?_set'] at hu hv
  by_cases q : j = i
  · rw [if_pos q] at hu hv
    split at hu
    · split at hv
      · cases hu; cases hv; exact h
      · cases hv
    · cases hu
  · rw [if_neg q] at hu hv
    exact a.2 j u v hu hv
theorem set_rounds {rv : List Value} {f : Nat → Option Nat} {k l : Nat} {t : Tok} (a : All2 OVN rv ((List.range 6).map f)) : All2 OVN (rv.set k (.int (l : Nat) t)) ((List.range 6).map (upd f k (some l))) := by
  have e := map_upd (fun x : Option Nat => x) f 6 k (some l)
  rw [show ((List.range 6).map fun i => f i) = (List.range 6).map f from rfl] at e
  have e' : (List.range 6).map (upd f k (some l)) = ((List.range 6).map f).set k (some l) := e
  rw [e']
  exact a.set (y := some l) ⟨t, rfl⟩ k
theorem set_left {rv : List Value} {f : Nat → Int} {k : Nat} {l : Int} {t : Tok} (a : All2 IV rv ((List.range 6).map f)) : All2 IV (rv.set k (.int l t)) ((List.range 6).map (upd f k l)) := by
  have e := map_upd (fun x : Int => x) f 6 k l
  have e' : (List.range 6).map (upd f k l) = ((List.range 6).map f).set k l := e
  rw [e']
  exact a.set ⟨t, rfl⟩ k
theorem atR {α : Type} {R : Value → α → Prop} {rv : List Value} {f : Nat → α} {k : Nat} (a : All2 R rv ((List.range 6).map f)) (hk : k < 6) : ∃ v, rv[((k : Nat) : Int).toNat]? = some v ∧ R v (f k) := by
  obtain ⟨v, hv, r⟩ := a.at (i := k) (y := f k) (by rw [List.getElem?_map, List.getElem?_range hk]; rfl)
  exact ⟨v, by rw [Int.toNat_natCast]; exact hv, r⟩
theorem k63 {k : Nat} (hk : k < 6) : ((k : Nat) : Int) < 2 ^ 63 := Int.lt_trans (Int.ofNat_lt.mpr hk) (by decide)
theorem in_form : ∀ k, k < 6 → (((Str.ofString "{*}" ++ wd k).cps.toList == (Str.ofString "{*}*").cps.toList) = false ∧ ((Str.ofString "{*}" ++ wd k).cps.toList == (Str.ofString "{}*").cps.toList) = false ∧
    ((Txt.slice (Str.ofString "{*}" ++ wd k) none (some 3)).cps.toList == (Str.ofString "{*}").cps.toList) = true) ∧ (Str.ofString "{*}" ++ wd k).length < 1000 ∧ (wd k).length ≤ 3 := by decide +kernel
section
variable {w : World} {A : Around} {E : Value → Shared → Prop} {s : Shared} {env : Env} {mg mb : Str → Option Value}
theorem byte0 {value slice : Expr} {b : Array UInt8} {t u : Tok} {Q : Value → Shared → Prop} (h0 : 0 < b.size) (hl : b.size < 1000) (h : ∀ t tk, Q (.int ((b.toList.headD 0).toNat : Nat) t) { s with toks := tk })
    (hs : subscripted slice false (.bytes b t) (.int 0 u) = operate [.bytes b t, .int 0 u] (getItem (.bytes b t) (.int 0 u)) := by with_unfolding_all rfl)
    (ht : ∀ r, letTemporaryGo value (.bytes b t) r = pure () := by intro _; with_unfolding_all rfl) : wpAny (model PG w) A (subscriptTail value slice (.bytes b t) (.int 0 u)) Q E s := by
  obtain ⟨l⟩ := b
  refine PyProof.Rows.tail_of_ItemOn ⟨"bytes", _, PySem.W.FB.slot_bytes_getitem.lookup, typeIs_bytes _ _ _, ?_⟩ hs ht
  refine PySem.W.getItem_bytes (by have : l.length < 1000 := by simpa using hl
                                   omega) (by decide) (by have : 0 < l.length := by simpa using h0
                                                          omega) ?_
  have e : l.getD (0 : Int).toNat 0 = l.headD 0 := by cases l <;> rfl
  rw [e]
  exact h _ _
theorem lenB {e : Expr} {p pos : Pos} {Q : Value → Shared → Prop} (G : Gd w mg mb s.heap)
    (h : wpAny (model PG w) A (eval e env) (fun v s₁ => ∃ (b : Array UInt8) (t : Tok), v = .bytes b t ∧ b.size < 1000 ∧ ∀ t tk, Q (.int b.size t) { s₁ with toks := tk }) E s)
    (hk : env.scope.kind = .function := by rfl) (hl : env.kindOf (Str.ofString "len") = some .globalImplicit := by rfl) (hg : env.globals = mainGlobals := by rfl) (hb : env.builtins = builtinsNs := by rfl)
    (he : starEach [e] env = [(false, eval e env)] := by rfl) (hc : eval (.Call (.Name (Str.ofString "len") p) [e] [] pos) env = (do callWith pos (← eval (.Name (Str.ofString "len") p) env) [] (backTo pos (starEach [e] env)) (backToKw pos (keywordEach [] env))) := by rfl) :
    wpAny (model PG w) A (eval (.Call (.Name (Str.ofString "len") p) [e] [] pos) env) Q E s := by
  refine Call_ (Gd.built G (by kernel_rfl) boot_len' (callWith_builtin1 (args_cons (wpAny_mono h (fun v s₁ h₁ => ?_) fun _ _ x => x) he) he) (by decide) hk hl hg hb) hc
  obtain ⟨b, t, rfl, hlen, hq⟩ := h₁
  exact args_nil (PySem.W.len_bytes (by omega) (hq _ _))
end
/- the settling's inner list, turn by turn -/
noncomputable def stj (ns : List Int) (l k : Nat) (st1 : St) (j : Nat) : St := ((((Xin (xsOf ns) k).take (j - 1)).filter fun x => !(kindI x == 7)).map srcI).foldl (one l k) st1
theorem stj_skip {ns : List Int} {l k : Nat} {st1 : St} {j : Nat} {x : Int} (hx : (Xin (xsOf ns) k)[j]? = some x) (h7 : (kindI x == 7) = true) : stj ns l k st1 (j + 1 + 1) = stj ns l k st1 (j + 1) := by
  unfold stj
  rw [Nat.add_sub_cancel, Nat.add_sub_cancel, List.take_succ, hx, List.filter_append]
  simp [h7]
theorem stj_one {ns : List Int} {l k : Nat} {st1 : St} {j : Nat} {x : Int} (hx : (Xin (xsOf ns) k)[j]? = some x) (h7 : (kindI x == 7) = false) : stj ns l k st1 (j + 1 + 1) = one l k (stj ns l k st1 (j + 1)) (srcI x) := by
  unfold stj
  rw [Nat.add_sub_cancel, Nat.add_sub_cancel, List.take_succ, hx, List.filter_append, List.map_append, List.foldl_append]
  simp [h7]
theorem stj_len (ns : List Int) (l k : Nat) (st1 : St) (j : Nat) : (stj ns l k st1 j).heap.length ≤ st1.heap.length + 16 := by
  unfold stj
  refine Nat.le_trans (fold_len l k _ st1) (Nat.add_le_add_left ?_ _)
  rw [List.length_map]
  exact Nat.le_trans (List.length_filter_le _ _) (Nat.le_trans (List.length_take_le' _ _) (Nat.le_trans (List.length_filter_le _ _) (xsOf_len ns)))
theorem stj_rounds (ns : List Int) (l k : Nat) (st1 : St) (j : Nat) : (stj ns l k st1 j).rounds = st1.rounds := (fold_same l k _ st1).1
theorem atIV {vs : List Value} {f : Nat → Int} {k : Nat} (a : All2 IV vs ((List.range 6).map f)) (hk : k < 6) : All2 IV vs ((List.range 6).map f) ∧ ∃ t, vs[((k : Nat) : Int).toNat]? = some (.int (f k) t) := by
  obtain ⟨v, hv, t, rfl⟩ := atR a hk
  exact ⟨a, t, hv⟩
theorem fmod2 (l : Nat) : ((l : Int).fmod 2 == 1) = decide (l % 2 = 1) ∧ ((l : Int).fmod 2 == 0) = decide (l % 2 = 0) := by
  have e : (l : Int).fmod 2 = ((l % 2 : Nat) : Int) := by
    rw [Int.fmod_eq_emod_of_nonneg _ (by decide)]; omega
  rw [e]
  have h : l % 2 = 0 ∨ l % 2 = 1 := by omega
  rcases h with h | h <;> rw [h] <;> decide
theorem one_eq (l k : Nat) (st : St) (j : Nat) : one l k st j = { st with left := (one l k st j).left, heap := (one l k st j).heap } := rfl
inductive SetP [Bs] (r : Result) (s' : Shared) (s : Shared) (Inv : St → Prop) : Prop
  | mk (h' : _) (gs : _) (tk : _) (D : _) (rl : _) (ol : _) (rv : _) (st : _) (fa : Nat → Addr) (e0 : r = .ok (.ret (.ref D))) (e1 : s' = { s with heap := h', gens := gs, toks := tk }) (e2 : Ext (At 23) s.heap h') (e3 : (AllBare s.gens → AllBare gs)) (e4 : Tab h' 27 23 selQ) (e5 : h'.IsTuple D #[.ref rl, .ref ol]) (e6 : Inv st) (e7 : st.heap = []) (e8 : s.heap.objs.size ≤ rl) (e9 : s.heap.objs.size ≤ ol) (e10 : Ls h' rl rv) (e11 : All2 OVN rv ((List.range 6).map st.rounds)) (e12 : Ls h' ol (st.order.map fun k => .ref (fa k))) (e13 : ∀ i, i < 6 → s.heap.objs.size ≤ fa i ∧ fa i ≠ ol ∧ LN h' (fa i) (st.fam i)) : SetP r s' s Inv
inductive Set1 [Bs] (s' : Shared) (s : Shared) (hl : Addr) (I : Addr) (ns : List Int) (i : Nat) (wl : Addr) (pl : Addr) (ra : Addr) (al : Addr) : Prop
  | mk (h : _) (tk : _) (m : _) (e0 : s' = { s with heap := h, toks := tk }) (e1 : Ext (Yx s.heap.objs.size) s.heap h) (e2 : Tab h 27 23 selQ) (e3 : HR h hl I (hs0 (fun k => outM (xsOf ns) k) i)) (e4 : Loc h s.heap.objs.size m) (e5 : I < h.objs.size) (e6 : m.lookup (Str.ofString "heap") = some (.ref hl)) (e7 : m.lookup (Str.ofString "words") = some (.ref wl)) (e8 : m.lookup (Str.ofString "places") = some (.ref pl)) (e9 : m.lookup (Str.ofString "row") = some (.ref ra)) (e10 : m.lookup (Str.ofString "ahead") = some (.ref al)) : Set1 s' s hl I ns i wl pl ra al
inductive Set2 [Bs] (s' : Shared) (s : Shared) (fa : Nat → Addr) (hl : Addr) (ll : Addr) (rl : Addr) (fl : Addr) (ol : Addr) (fs : List Value) (Inv : St → Prop) (k : Nat) (mu : St → Nat) (wl : Addr) (pl : Addr) (ra : Addr) : Prop
  | mk (h : _) (gs : _) (tk : _) (m : _) (st : _) (e0 : s' = { s with heap := h, gens := gs, toks := tk }) (e1 : Ext (Yx s.heap.objs.size) s.heap h) (e2 : (AllBare s.gens → AllBare gs)) (e3 : Tab h 27 23 selQ) (e4 : SR h fa hl ll rl fl ol fs 0 st) (e5 : Inv st) (e6 : k = mu st) (e7 : Loc h s.heap.objs.size m) (e8 : m.lookup (Str.ofString "heap") = some (.ref hl)) (e9 : m.lookup (Str.ofString "words") = some (.ref wl)) (e10 : m.lookup (Str.ofString "places") = some (.ref pl)) (e11 : m.lookup (Str.ofString "row") = some (.ref ra)) (e12 : m.lookup (Str.ofString "left") = some (.ref ll)) (e13 : m.lookup (Str.ofString "rounds") = some (.ref rl)) (e14 : m.lookup (Str.ofString "families") = some (.ref fl)) (e15 : m.lookup (Str.ofString "order") = some (.ref ol)) : Set2 s' s fa hl ll rl fl ol fs Inv k mu wl pl ra
inductive Nm8 [Bs] (m' : List (Str × Value)) (hl : Addr) (wl : Addr) (pl : Addr) (ra : Addr) (ll : Addr) (rl : Addr) (fl : Addr) (ol : Addr) : Prop
  | mk (e0 : m'.lookup (Str.ofString "heap") = some (.ref hl)) (e1 : m'.lookup (Str.ofString "words") = some (.ref wl)) (e2 : m'.lookup (Str.ofString "places") = some (.ref pl)) (e3 : m'.lookup (Str.ofString "row") = some (.ref ra)) (e4 : m'.lookup (Str.ofString "left") = some (.ref ll)) (e5 : m'.lookup (Str.ofString "rounds") = some (.ref rl)) (e6 : m'.lookup (Str.ofString "families") = some (.ref fl)) (e7 : m'.lookup (Str.ofString "order") = some (.ref ol)) : Nm8 m' hl wl pl ra ll rl fl ol
inductive Set3 [Bs] (s' : Shared) (s : Shared) (Fr : Addr) (fa : Nat → Addr) (hl : Addr) (ll : Addr) (rl : Addr) (fl : Addr) (ol : Addr) (fs : List Value) (ns : List Int) (l : Nat) (k : Nat) (st : St) (rest : List N3) (src : Nat) (j : Nat) (wl : Addr) (pl : Addr) (ra : Addr) (t1 : Tok) (t2 : Tok) : Prop
  | mk (h : _) (gs' : _) (tk : _) (m' : _) (e0 : s' = { s with heap := h, gens := gs', toks := tk }) (e1 : Ext (Yx s.heap.objs.size) s.heap h) (e2 : (AllBare s.gens → AllBare gs')) (e3 : TabM h 27 23 selQ Fr) (e4 : SR h fa hl ll rl fl ol fs Fr (stj ns l k (set1 st rest l k src) j)) (e5 : Loc h s.heap.objs.size m') (e6 : Fr < h.objs.size) (e7 : (Nm8 m' hl wl pl ra ll rl fl ol)) (e8 : m'.lookup (Str.ofString "level") = some (.int (l : Nat) t1)) (e9 : m'.lookup (Str.ofString "k") = some (.int (k : Nat) t2)) : Set3 s' s Fr fa hl ll rl fl ol fs ns l k st rest src j wl pl ra t1 t2
inductive Set4 [Bs] (s' : Shared) (s : Shared) (gs : Array GenState) (rl : Addr) (ol : Addr) (fa : Nat → Addr) (src : Nat) (h₆ : Heap) (hl : Addr) (ll : Addr) (fl : Addr) (fs : List Value) (st : St) (rest : List N3) (l : Nat) (k : Nat) : Prop
  | mk (h : _) (tk : _) (e0 : s' = { s with heap := h, gens := gs, toks := tk }) (e1 : Ext (fun b => b = rl ∨ b = ol ∨ b = fa src) h₆ h) (e2 : SR h fa hl ll rl fl ol fs 0 (set1 st rest l k src)) : Set4 s' s gs rl ol fa src h₆ hl ll fl fs st rest l k
inductive Set5 [Bs] (s' : Shared) (s : Shared) (gs' : Array GenState) (ll : Addr) (h₁₅ : Heap) (L2 : Nat → Int) (x : Int) : Prop
  | mk (h : _) (tk : _) (e0 : s' = { s with heap := h, gens := gs', toks := tk }) (e1 : Ext (At ll) h₁₅ h) (e2 : h₁₅.objs.size ≤ h.objs.size) (e3 : ∃ vs, Ls h ll vs ∧ All2 IV vs ((List.range 6).map L2) ∧ ∃ t', vs[((srcI x : Nat) : Int).toNat]? = some (.int (L2 (srcI x)) t')) : Set5 s' s gs' ll h₁₅ L2 x
theorem settled_spec {w : World} {mg mb : Str → Option Value} {A : Around} {s : Shared} {wl pl ra al : Addr} {wv pv av : List Value} {rt : List (Value × Value)} {ns : List Int} {lo hi : Nat} {outer : List Env} (Inv : St → Prop) (mu : St → Nat)
    (G : Gd w mg mb s.heap) (R : Rm A 9) (hfr : A.frames = some outer) (FS : Fs s.heap outer) (hs : 114 < s.heap.objs.size) (hbn : Bs.n ≤ s.heap.objs.size) (T : Tab s.heap 27 23 selQ) (hW : Ls s.heap wl wv) (hwv : All2 SV wv wordsS) (hP : Ls s.heap pl pv) (hpv : PV pv)
    (hR : Ls s.heap ra (rt.map (·.1))) (hel : ∀ v t, (v, t) ∈ rt → El s.heap lo hi v t ∧ Okt t) (hrt : RT rt ns) (hlo : 114 < lo) (hhi : hi ≤ s.heap.objs.size) (hw1 : 114 < wl) (hp1 : 114 < pl) (hr1 : 114 < ra)
    (hA : Ls s.heap al av) (ha1 : 114 < al) (hav : All2 (fun v k => ∃ l, v = .ref l ∧ 114 < l ∧ LN s.heap l (outM (xsOf ns) k)) av (List.range 6))
    (i0 : Inv (st0 fun k => outM (xsOf ns) k)) (istep : ∀ st t rest ys z, Inv st → st.heap = ys ++ [z] → hpop ltN ys z = (t, rest) → Inv (turnS (fun k => inM (xsOf ns) k) st t rest) ∧ mu (turnS (fun k => inM (xsOf ns) k) st t rest) < mu st)
    (ib : ∀ st, Inv st → (∀ z ∈ st.heap, z.2.1 < 6 ∧ z.2.2 < 6) ∧ mu st < 900 ∧ st.heap.length ≤ mu st ∧ st.order.length < 1000 ∧ ∀ i, (st.fam i).length < 1000) :
    codeAny (model PG w) A (.call (.ref 104) ⟨[.ref wl, .ref pl, .ref ra, .ref al], []⟩) (fun r s' => SetP r s' s Inv) s := by
  refine call_plain_ret R.d (G.k 104 _ rfl) rfl G.lim (codeRec_of G.k rfl) rfl (locs rfl) (fun h₁ F => ?_)
  refine hide fun Q0 hQ0 => ?_
  have FL : Loc h₁ s.heap.objs.size [(Str.ofString "ahead", .ref al), (Str.ofString "row", .ref ra), (Str.ofString "places", .ref pl), (Str.ofString "words", .ref wl)] := F.ns
  have E₁ : Ext Non s.heap h₁ := Ext.of F.keep _
  clear F
  have R7 : ∀ env, Rm (A.deeper env) 7 := fun env => (R.deeper env).le (by decide)
  have R6 : ∀ env, Rm (A.deeper env) 6 := fun env => (R.deeper env).le (by decide)
  have R3 : ∀ env, Rm (A.deeper env) 3 := fun env => (R.deeper env).le (by decide)
  have sz1 : s.heap.objs.size < h₁.objs.size := FL.lt
  have ltW := hW.lt
  have ltP := hP.lt
  have ltR := hR.lt
  have ltA := hA.lt
  have hwlen : wv.length = 6 := hwv.1
  have yL : ∀ b, b = s.heap.objs.size → Yx s.heap.objs.size b := fun b q => .inl (Nat.le_of_eq q.symm)
  have ncL : ∀ {h : Heap} {m}, Loc h s.heap.objs.size m → ∀ b, b = s.heap.objs.size → (Tb b ∧ b ≠ 23) ∨ (Hi b ∧ NC h b) := fun F b q => .inr ⟨by rw [q]; exact hs, by rw [q]; exact .ns F⟩
  refine wpAny_execs_cons ?_
  refine wpAny_Assign_Name ?_
  refine List_ ?_
  refine args_nil ?_
  refine newL (by decide) ?_
  intro hl h₂ hhl Lh x₂
  refine Loc.storeZ (FL.ext x₂ id) ?_
  intro h₃ FL₃ x₃ z₃
  have hhl1 : hl = h₁.objs.size := hhl
  have hlS : s.heap.objs.size < hl := by rw [hhl1]; exact sz1
  have nhL : hl ≠ s.heap.objs.size := Ne.symm (Nat.ne_of_lt hlS)
  have hl114 : 114 < hl := Nat.lt_trans hs hlS
  have Lh₃ : Ls h₃ hl [] := Lh.ext x₃ nhL
  have y₃ : Ext (Yx s.heap.objs.size) s.heap h₃ := ((E₁.non x₂).mono fun _ q => q.elim).up x₃ yL
  have T₃ : Tab h₃ 27 23 selQ := ((T.non E₁ (by decide) (by decide)).non x₂ (by decide) (by decide)).ext x₃ (by decide) (by decide) (ncL (FL.ext x₂ id))
  have H₃ : HR h₃ hl 0 (hs0 (fun k => outM (xsOf ns) k) 0) := ⟨[], Lh₃, rfl, fun z hz => nomatch hz⟩
  have G₃ := G.y y₃ hs
  -- places that have no move
  refine wpAny_execs_cons ?_
  refine forR ?_ ?_
  exact R.handled
  refine range_ G₃ ?_
  refine len_ G₃ ?_
  refine Loc.name FL₃ rfl ?_
  have hw22 : wv.length < 2 ^ 22 := by rw [hwlen]; decide
  refine ⟨wl, wv, rfl, hW.ext y₃ (nY ltW hw1), hw22, fun t tk => ⟨6, t, by rw [hwlen], fun r h₄ tk₄ t₁ t₂ t₃ hr IR x₄ hr4 => ⟨r, 6, t₁, t₂, t₃, rfl, IR, (show 6 < 2 ^ 30 by decide), fun I h₅ hI x₅ hI5 => ?_⟩⟩⟩
  have hI4 : h₄.objs.size ≤ I := Nat.le_of_eq hI.symm
  have hr3 : h₃.objs.size < h₄.objs.size := by have : r = h₃.objs.size := hr; rw [← this]; exact hr4
  have x35 : Ext Non h₃ h₅ := x₄.non x₅
  have LI' : s.heap.objs.size < I := Nat.lt_of_lt_of_le (FL₃.ext x₄ id).lt hI4
  have hlI : hl < I := Nat.lt_of_lt_of_le (Lh₃.ext x₄ id).lt hI4
  refine ⟨fun i s' => Set1 s' s hl I ns i wl pl ra al, ?_, ?_, ?_, ?_⟩
  · exact ⟨h₅, _, _, rfl, y₃.up x35 (fun _ q => q.elim), T₃.non x35 (by decide) (by decide), (H₃.bad (.inl (Nat.le_trans (Nat.le_of_lt hr3) hI4))).ext x35 id (fun _ _ _ _ _ q => q), FL₃.ext x35 id, hI5, rfl, rfl, rfl, rfl, rfl⟩
  · rintro i _ h tk ⟨h₀, tk₀, m, rfl, y₀, T₀, H₀, F₀, hI0, m1, m2, m3, m4, m5⟩ nc hsz x
    exact ⟨h, tk, m, rfl, y₀.up x (fun b q => .inl (by rw [show b = I from q]; exact Nat.le_of_lt LI')), T₀.ext x (by decide) (by decide) (fun b q => .inr ⟨by rw [show b = I from q]; exact Nat.lt_trans hs LI', by rw [show b = I from q]; exact nc⟩), H₀.ext x (Nat.ne_of_lt hlI) (fun a xs _ _ ne q => ne q), F₀.ext x (Nat.ne_of_lt LI'), Nat.lt_of_lt_of_le hI0 hsz, m1, m2, m3, m4, m5⟩
  · rintro i t _ hi ⟨h₀, tk₀, m, rfl, y₀, T₀, H₀, F₀, hI0, m1, m2, m3, m4, m5⟩
    refine hideB fun Q1 hQ1 => ?_
    obtain ⟨v, hv, l, rfl, hl1, hLN⟩ := hav.at (List.getElem?_range hi)
    have lltS : l < s.heap.objs.size := let ⟨_, q, _⟩ := hLN; q.lt
    have hv' : av[((i : Nat) : Int).toNat]? = some (.ref l) := by rw [Int.toNat_natCast]; exact hv
    have i63 : ((i : Nat) : Int) < 2 ^ 63 := Int.lt_trans (Int.ofNat_lt.mpr hi) (by decide)
    have hlen0 : (hs0 (fun k => outM (xsOf ns) k) i).length < 1000 := Nat.lt_of_le_of_lt (hs0_len (fun k => outM (xsOf ns) k) i) (Nat.lt_trans hi (by decide))
    refine wpAny_assign_Name ?_
    refine Loc.storeZ F₀ ?_
    intro h₆ F₆ x₆ z₆
    have y₆ := y₀.up x₆ yL
    have G₆ := G.y y₆ hs
    have T₆ := T₀.ext x₆ (by decide) (by decide) (ncL F₀)
    have H₆ := H₀.ext x₆ nhL fun a xs ht _ _ q => tupNsE ht F₀ q
    refine wpAny_execs_cons ?_
    refine wpAny_If ?_
    refine wpAny_isTrue_Compare1 ?_
    refine Subscript_ ?_
    refine Loc.name F₆ (lkN m5) ?_
    refine Loc.name F₆ lkE ?_
    refine item (hA.ext y₆ (nY ltA ha1)) (Int.natCast_nonneg i) i63 hv' ?_
    refine List_ ?_
    refine args_nil ?_
    refine newL (by decide) ?_
    intro e h₇ he Le x₇
    refine eqNil ((hLN.ext y₆ (nY lltS hl1)).ext x₇ id) Le (R.deeper _).u ?_
    refine wpAny_truthy_bool ?_
    have y₇ := y₆.up x₇ fun _ q => q.elim
    have G₇ := G.y y₇ hs
    have F₇ := F₆.ext x₇ id
    by_cases hemp : outM (xsOf ns) i = []
    · rw [show (outM (xsOf ns) i).isEmpty = true by rw [hemp]; rfl, if_pos rfl]
      refine wpAny_execs_cons ?_
      refine wpAny_Expr ?_
      refine callG (f := 43) G₇ (by kernel_rfl) rfl rfl ?_
      refine args_cons ?_
      refine Loc.name F₇ (lkN m1) ?_
      refine args_cons ?_
      refine Tuple_ ?_
      refine args_cons ?_
      refine wpAny_Constant_int ?_
      refine args_cons ?_
      refine Loc.name F₇ lkE ?_
      refine args_cons ?_
      refine Loc.name F₇ lkE ?_
      refine args_nil ?_
      refine newT (by show 3 < 100; decide) ?_
      intro D h₈ hD TD x₈
      refine args_nil ?_
      have hD7 : D = h₇.objs.size := hD
      have hID : I < D := by rw [hD7]; exact Nat.lt_of_lt_of_le hI0 (Nat.le_trans z₆ (Nat.le_of_lt (by have := Le.lt; rw [he] at this; exact this)))
      have y₈ := y₇.up x₈ fun _ q => q.elim
      have G₈ := G.y y₈ hs
      have H₈ := (H₆.ext x₇ id fun _ _ _ _ _ q => q).ext x₈ id fun _ _ _ _ _ q => q
      refine ⟨G₈, useS (pushHR (l := 0) (j := i) (k := i) (s := { s with heap := h₈, toks := _ }) G₈ (R7 _) hl114 H₈ hlen0 (Ne.symm (Nat.ne_of_lt hID)) (Nat.lt_trans (Nat.lt_trans hs LI') hID) TD) ?_⟩
      rintro r s' ⟨h₉, tk₉, rfl, rfl, x₉, H₉⟩ sz₉
      refine ⟨_, rfl, ?_⟩
      refine wpAny_execs_nil ?_
      refine wpAny_execs_nil ?_
      have sz9 : h₈.objs.size ≤ h₉.objs.size := sz₉
      have hI9 : I < h₉.objs.size := by
        refine Nat.lt_of_lt_of_le hID (Nat.le_trans (Nat.le_of_lt ?_) sz9)
        obtain ⟨o, ho, _⟩ := TD; exact Heap.lt_size ho
      have e79 : Ext (At hl) h₆ h₉ := (((x₇.non x₈).mono fun _ q => q.elim)).up x₉ fun b q => q
      have T₉ := T₆.ext e79 (by decide) (by decide) fun b q => .inr ⟨by rw [show b = hl from q]; exact hl114, by rw [show b = hl from q]; obtain ⟨zs, L, _⟩ := H₆; exact .ls L⟩
      refine hQ1 _ _ ⟨rfl, ⟨h₉, _, _, rfl, y₈.up x₉ (fun b q => .inl (by rw [show b = hl from q]; exact Nat.le_of_lt hlS)), T₉, by rw [hs0_succ, if_pos hemp]; exact H₉, (F₆.ext e79 (Ne.symm nhL)), hI9, lkN m1, lkN m2, lkN m3, lkN m4, lkN m5⟩, ((x₆.mono fun b q => (.inl q : b = s.heap.objs.size ∨ b = hl)).up e79 fun b q => .inr q).mono fun b q => ?_⟩
      rcases q with q | q <;> obtain rfl := q.symm
      · exact Nat.ne_of_lt LI'
      · exact Nat.ne_of_lt hlI
    · rw [show (outM (xsOf ns) i).isEmpty = false by cases e : outM (xsOf ns) i with | nil => exact absurd e hemp | cons => rfl, if_neg Bool.false_ne_true]
      refine wpAny_execs_nil ?_
      refine wpAny_execs_nil ?_
      have e67 : Ext Non h₆ h₇ := x₇
      refine hQ1 _ _ ⟨rfl, ⟨h₇, _, _, rfl, y₇, T₆.non e67 (by decide) (by decide), by rw [hs0_succ, if_neg hemp]; exact H₆.ext e67 id fun _ _ _ _ _ q => q, F₇, ?_, lkN m1, lkN m2, lkN m3, lkN m4, lkN m5⟩, (x₆.up e67 fun _ q => q.elim).mono fun b q => by rw [show b = s.heap.objs.size from q]; exact Nat.ne_of_lt LI'⟩
      exact Nat.lt_of_lt_of_le hI0 (Nat.le_trans z₆ (Nat.le_of_lt (by have := Le.lt; rw [he] at this; exact this)))
  · rintro _ ⟨h₀, tk₀, m, rfl, y₀, T₀, H₀, F₀, hI0, m1, m2, m3, m4, m5⟩
    have G₀ := G.y y₀ hs
    have havlen : av.length = 6 := by rw [hav.1, List.length_range]
    refine wpAny_execs_cons ?_
    refine AssignCompL0 (m := m) (l := al) (vs := av) (cl := []) (fun i u => IV u ((outM (xsOf ns) i).length : Int)) (by rfl) rfl (by decide) rfl (by decide) rfl R.handled F₀ m5 (hA.ext y₀ (nY ltA ha1)) (by rw [havlen]; decide) ?_ ?_
    · intro C i v h tk mm hv e nC mx
      obtain ⟨k, hk, l, rfl, hl1, hLN⟩ := hav.at' hv
      obtain ⟨rfl, hk6⟩ := rangeAt hk
      have lltS : l < s.heap.objs.size := let ⟨_, q, _⟩ := hLN; q.lt
      obtain ⟨vs, Lv, av2⟩ := (hLN.ext y₀ (nY lltS hl1)).ext e id
      have hvl : vs.length < 2 ^ 22 := by
        rw [av2.1]
        unfold outM
        rw [List.length_map]
        exact Nat.lt_of_le_of_lt (Nat.le_trans (List.length_filter_le _ _) (Nat.le_trans (List.length_filter_le _ _) (xsOf_len ns))) (by decide)
      refine len_ (s := { s with heap := h, toks := _ }) (G₀.ext e fun _ q => q.elim) ?_
      refine nsName nC mx ⟨l, vs, rfl, Lv, hvl, fun t tk => ⟨h, tk, rfl, Ext.refl _ _, t, by rw [av2.1]⟩⟩
    intro ll h₆ tk₆ lv hll F₆ x₆ Lll hlen6 hrl
    have hll' : h₀.objs.size ≤ ll := hll
    have Llv : All2 IV lv ((List.range 6).map fun k => ((outM (xsOf ns) k).length : Int)) := all2Range (by rw [hlen6, havlen]) hrl
    have Lh0 : ∃ zs, Ls h₀ hl zs := let ⟨zs, L, _⟩ := H₀; ⟨_, L⟩
    have hl_ll : hl < ll := Nat.lt_of_lt_of_le (let ⟨_, L⟩ := Lh0; L.lt) hll'
    have nllL : ll ≠ s.heap.objs.size := Ne.symm (Nat.ne_of_lt (Nat.lt_trans hlS hl_ll))
    have y₆ := y₀.up x₆ yL
    have T₆ := T₀.ext x₆ (by decide) (by decide) (ncL F₀)
    have H₆ := H₀.ext x₆ nhL fun a xs ht _ _ q => tupNsE ht F₀ q
    refine wpAny_execs_cons ?_
    refine AssignCompL0 (l := wl) (vs := wv) (cl := []) (fun i u => u = .none) (by rfl) rfl (by decide) rfl (by decide) rfl R.handled F₆ (lkN m2) (hW.ext y₆ (nY ltW hw1)) (by rw [hwlen]; decide) ?_ ?_
    · intro C i v h tk mm hv e nC mx
      exact wpAny_Constant_none ⟨h, tk, rfl, Ext.refl _ _, rfl⟩
    intro rl h₇ tk₇ rv hrl' F₇ x₇ Lrl hlen7 hrr
    have hrl2 : h₆.objs.size ≤ rl := hrl'
    have Lrv : All2 OVN rv ((List.range 6).map fun _ => (none : Option Nat)) := all2Range (by rw [hlen7, hwlen]) fun i u hu => hrr i u hu
    have ll_rl : ll < rl := Nat.lt_of_lt_of_le Lll.lt hrl2
    have nrlL : rl ≠ s.heap.objs.size := Ne.symm (Nat.ne_of_lt (Nat.lt_trans (Nat.lt_trans hlS hl_ll) ll_rl))
    have y₇ := y₆.up x₇ yL
    have T₇ := T₆.ext x₇ (by decide) (by decide) (ncL F₆)
    have H₇ := H₆.ext x₇ nhL fun a xs ht _ _ q => tupNsE ht F₆ q
    have Lll₇ := Lll.ext x₇ nllL
    have G₇ := G.y y₇ hs
    refine wpAny_execs_cons ?_
    refine AssignCompR (l := wl) (vs := wv) (cl := []) (s := { s with heap := h₇, toks := _ }) G₇ (by rfl) rfl (by decide) rfl (by decide) rfl R.handled F₇ (lkN (lkN m2)) (hW.ext y₇ (nY ltW hw1)) (by rw [hwlen]; decide) (by decide) ?_
    intro fl h₈ tk₈ fs hfl F₈ x₈ Lfl hlen8 hff
    have hfl2 : h₇.objs.size ≤ fl := hfl
    have rl_fl : rl < fl := Nat.lt_of_lt_of_le Lrl.lt hfl2
    have nflL : fl ≠ s.heap.objs.size := Ne.symm (Nat.ne_of_lt (Nat.lt_trans (Nat.lt_trans (Nat.lt_trans hlS hl_ll) ll_rl) rl_fl))
    have y₈ := y₇.up x₈ yL
    have T₈ := T₇.ext x₈ (by decide) (by decide) (ncL F₇)
    have H₈ := H₇.ext x₈ nhL fun a xs ht _ _ q => tupNsE ht F₇ q
    have Lll₈ := Lll₇.ext x₈ nllL
    have Lrl₈ := Lrl.ext x₈ nrlL
    have hfs : ∀ i, i < 6 → fs[i]? = some (.ref (faOf fs i)) ∧ fl < faOf fs i ∧ LN h₈ (faOf fs i) [i] := fun i hi => by
      obtain ⟨u, hu⟩ : ∃ u, fs[i]? = some u := ⟨_, List.getElem?_eq_getElem (by rw [hlen8, hwlen]; exact hi)⟩
      obtain ⟨a, rfl, h1, h2⟩ := hff i u hu
      have : faOf fs i = a := by unfold faOf; rw [hu]
      rw [this]; exact ⟨hu, h1, h2⟩
    generalize faOf fs = fa at hfs
    have hinj : ∀ i j, i < 6 → j < 6 → fa i = fa j → i = j := fun i j hi hj e => by
      have a := (hfs i hi).2.2
      have b := (hfs j hj).2.2
      rw [e] at a
      have := lnInj a b
      exact (List.cons.inj this).1
    refine wpAny_execs_cons ?_
    refine wpAny_Assign_Name ?_
    refine List_ ?_
    refine args_nil ?_
    refine newL (by decide) ?_
    intro ol h₉ hol Lol x₉
    refine Loc.storeZ (F₈.ext x₉ id) ?_
    intro h₁₀ F₁₀ x₁₀ z₁₀
    have hol1 : ol = h₈.objs.size := hol
    have hfo : fl < ol := by rw [hol1]; exact Lfl.lt
    have hfao : ∀ i, i < 6 → fa i < ol := fun i hi => by rw [hol1]; obtain ⟨_, q, _⟩ := (hfs i hi).2.2; exact q.lt
    have ap : AP s.heap.objs.size fa hl ll rl fl ol := ⟨hlS, hl_ll, ll_rl, rl_fl, fun i hi => (hfs i hi).2.1, hfao, hinj, hfo⟩
    have nolL : ol ≠ s.heap.objs.size := Ne.symm (Nat.ne_of_lt (Nat.lt_trans (Nat.lt_trans (Nat.lt_trans (Nat.lt_trans hlS hl_ll) ll_rl) rl_fl) hfo))
    have nfaL : ∀ i, i < 6 → fa i ≠ s.heap.objs.size := fun i hi => Ne.symm (Nat.ne_of_lt (Nat.lt_trans (Nat.lt_trans (Nat.lt_trans (Nat.lt_trans hlS hl_ll) ll_rl) rl_fl) (hfs i hi).2.1))
    have x8A : Ext (At s.heap.objs.size) h₈ h₁₀ := (x₉.mono fun _ q => q.elim).trans x₁₀
    have y₁₀ := y₈.up x8A yL
    have T₁₀ := T₈.ext x8A (by decide) (by decide) (ncL F₈)
    have S₀ : SR h₁₀ fa hl ll rl fl ol fs 0 (st0 fun k => outM (xsOf ns) k) := by
      refine ⟨?_, ⟨lv, Lll₈.ext x8A nllL, Llv⟩, ⟨rv, Lrl₈.ext x8A nrlL, Lrv⟩, Lfl.ext x8A nflL, fun i hi => ⟨(hfs i hi).1, (hfs i hi).2.2.ext x8A (nfaL i hi)⟩, Lol.ext x₁₀ nolL⟩
      exact (H₈.ext x8A nhL fun a xs ht _ _ q => tupNsE ht F₈ q).bad (.inr (by decide))
    clear H₈ H₇ H₆ Lh0 hrr hff hrl Lll₈ Lrl₈ Lll₇ T₈ T₇ T₆ y₈ y₇ y₆
    refine wpAny_execs_cons ?_
    refine while_ (fun k s' => Set2 s' s fa hl ll rl fl ol fs Inv k mu wl pl ra) ?_ (mu (st0 fun k => outM (xsOf ns) k))
      ⟨h₁₀, _, _, _, _, rfl, y₁₀, id, T₁₀, S₀, i0, rfl, F₁₀, lkN (lkN (lkN (lkN m1))), lkN (lkN (lkN (lkN m2))), lkN (lkN (lkN (lkN m3))), lkN (lkN (lkN (lkN m4))), lkN (lkN (lkN lkE)), lkN (lkN lkE), lkN lkE, lkE⟩
    clear F₁₀ F₈ F₇ F₆ F₀ S₀ T₁₀ T₀ y₁₀ y₀ hfs x8A x₁₀ x₉ x₈ x₇ x₆ Lol Lfl Lrl Lll z₁₀ G₇ G₀ hI0 m1 m2 m3 m4 m5 H₀
    rintro n _ ⟨h₀, gs, tk, m, st, rfl, y₀, hb, T₀, S₀, iv, rfl, F₀, m1, m2, m3, m4, m5, m6, m7, m8⟩
    refine hideW fun Q2 hQ2 Q3 hQ3 => ?_
    obtain ⟨zs, Lz, ez, cz⟩ := id S₀.hp
    obtain ⟨ib1, ib2, ib3, ib4, ib5⟩ := ib st iv
    have G₀ := G.y y₀ hs
    have u' : (A.deeper (envOf (Str.ofString "_law_settled") { kind := .function, names := [], isGenerator := false, isCoroutine := false } 0 104 (.ref 103))).units < cLine := (R.deeper _).u
    refine wpAny_isTrue_Compare1 ?_
    refine Loc.name F₀ m1 ?_
    refine List_ ?_
    refine args_nil ?_
    refine newL (by decide) ?_
    intro e h₁ he Le x₁
    refine neNil (Lz.ext x₁ id) Le u' ?_
    refine wpAny_truthy_bool ?_
    have y₁ := y₀.up x₁ fun _ q => q.elim
    have T₁ := T₀.non x₁ (by decide) (by decide)
    have S₁ := S₀.ext x₁ id id id id id (fun _ _ q => q) fun _ _ _ _ _ q => q
    have F₁ := F₀.ext x₁ id
    have G₁ := G.y y₁ hs
    clear y₀ T₀ S₀ F₀ G₀ Lz cz
    rcases List.eq_nil_or_concat st.heap with hz | ⟨ys, z, hz⟩
    · have : zs = [] := by rw [hz] at ez; simpa using ez
      subst this
      rw [if_neg (by show ¬ ((!([] : List Value).isEmpty) = true); decide)]
      refine wpAny_execs_nil ?_
      refine hQ3 _ _ ?_
      refine wpAny_execs_cons ?_
      refine wpAny_Return_some ?_
      refine Tuple_ ?_
      refine args_cons ?_
      refine Loc.name F₁ m6 ?_
      refine args_cons ?_
      refine Loc.name F₁ m8 ?_
      refine args_nil ?_
      refine newT (by show 2 < 100; decide) ?_
      intro D h₂ hD TD x₂
      obtain ⟨rv, Lr, ar⟩ := S₁.rd
      have y₂ := y₁.up x₂ fun _ q => q.elim
      have hrS : s.heap.objs.size ≤ rl := Nat.le_of_lt (Nat.lt_trans (Nat.lt_trans ap.h0 ap.h1) ap.h2)
      have hfS : s.heap.objs.size ≤ fl := Nat.le_trans hrS (Nat.le_of_lt ap.h3)
      exact hQ0 _ _ ⟨h₂, gs, _, D, rl, ol, rv, st, fa, rfl, rfl, y₂.y23, hb, T₁.non x₂ (by decide) (by decide), TD, iv, hz, hrS, Nat.le_trans hfS (Nat.le_of_lt ap.hfo), Lr.ext x₂ id, ar, S₁.od.ext x₂ id, fun i hi => ⟨Nat.le_trans hfS (Nat.le_of_lt (ap.h4 i hi)), Nat.ne_of_lt (ap.h5 i hi), (S₁.fi i hi).2.ext x₂ id⟩⟩
    · have hz' : st.heap = ys ++ [z] := by rw [hz, List.concat_eq_append]
      have hzs : zs.length = ys.length + 1 := by have := congrArg List.length ez; rw [hz'] at this; simpa using this
      have hne : (!(vals zs).isEmpty) = true := by cases zs with | nil => simp at hzs | cons => rfl
      rw [if_pos hne]
      have hys : ys.length < 1000 := by rw [hz', List.length_append, List.length_singleton] at ib3; omega
      have H₁ := S₁.hp
      rw [hz'] at H₁
      cases hpr : hpop ltN ys z with
      | mk t rest =>
      obtain ⟨inv', mu'⟩ := istep st t rest ys z iv hz' hpr
      have htm : t ∈ st.heap := by rw [hz', hpop_mem ltN, hpr]; exact .inl rfl
      obtain ⟨l, k, src⟩ := t
      obtain ⟨hk, hsrc⟩ := ib1 _ htm
      have hk' : k < 6 := hk
      have hsrc' : src < 6 := hsrc
      refine wpAny_execs_cons ?_
      refine Assign_Tuple ?_
      refine callG (f := 50) G₁ (by kernel_rfl) rfl rfl ?_
      refine args_cons ?_
      refine Loc.name F₁ m1 ?_
      refine args_nil ?_
      refine ⟨G₁, useS (popHR (s := { s with heap := h₁, gens := _, toks := _ }) G₁ (R7 _) hl114 H₁ hys) ?_⟩
      rintro r s' ⟨h₂, tk₂, a, t1, t2, t3, rfl, rfl, x₂, ha, TA, H₂⟩ sz₂
      rw [hpr] at TA H₂
      refine ⟨_, rfl, ?_⟩
      refine assign_Tuple_tuple (items := #[.int (l : Nat) t1, .int (k : Nat) t2, .int (src : Nat) t3]) R.handled TA rfl rfl ?_
      intro h₃ x₃'
      have x₃ : Ext Non h₂ h₃ := Ext.of (fun b o e => x₃' b o (Nat.ne_of_lt (Heap.lt_size e)) e) _
      clear x₃'
      have F₃ := (F₁.ext x₂ (Ne.symm nhL)).ext x₃ id
      refine assignInOrder_cons ?_
      refine assign_Name ?_
      refine Loc.storeZ F₃ ?_
      intro h₄ F₄ x₄ z₄
      refine assignInOrder_cons ?_
      refine assign_Name ?_
      refine Loc.storeZ F₄ ?_
      intro h₅ F₅ x₅ z₅
      refine assignInOrder_cons ?_
      refine assign_Name ?_
      refine Loc.storeZ F₅ ?_
      intro h₆ F₆ x₆ z₆
      refine assignInOrder_nil ?_
      have x36 : Ext (At s.heap.objs.size) h₃ h₆ := (x₄.trans x₅).trans x₆
      have x16 : Ext (fun b => b = hl ∨ b = s.heap.objs.size) h₁ h₆ := ((x₂.mono fun b q => .inl q).up x₃ fun _ q => q.elim).up x36 fun b q => .inr q
      have y₆ := y₁.up x16 fun b q => .inl (by rcases q with q | q <;> obtain rfl := q.symm; exact Nat.le_of_lt hlS; exact Nat.le_refl _)
      have G₆ := G.y y₆ hs
      have T₆ : Tab h₆ 27 23 selQ := T₁.ext x16 (by decide) (by decide) fun b q => by
        rcases q with q | q <;> obtain rfl := q.symm
        · exact .inr ⟨hl114, by obtain ⟨zs, L, _⟩ := H₁; exact .ls L⟩
        · exact .inr ⟨hs, .ns F₁⟩
      have H₆ : HR h₆ hl 0 rest := (H₂.ext x₃ id fun _ _ _ _ _ q => q).ext x36 nhL fun a xs ht _ _ q => tupNsE ht F₃ q
      have nX : ∀ b, hl < b → ¬ (b = hl ∨ b = s.heap.objs.size) := fun b hb q => by
        rcases q with q | q
        · rw [q] at hb; exact absurd hb (Nat.lt_irrefl _)
        · rw [q] at hb; exact absurd hb (Nat.not_lt.mpr (Nat.le_of_lt hlS))
      have rl_ := Nat.lt_trans ap.h1 ap.h2
      have fl_ := Nat.lt_trans rl_ ap.h3
      have S₆ : SR h₆ fa hl ll rl fl ol fs 0 { st with heap := rest } :=
        ⟨H₆, let ⟨vs, a, b⟩ := S₁.lf; ⟨vs, a.ext x16 (nX _ ap.h1), b⟩, let ⟨vs, a, b⟩ := S₁.rd; ⟨vs, a.ext x16 (nX _ rl_), b⟩, S₁.fm.ext x16 (nX _ fl_), fun i hi => ⟨(S₁.fi i hi).1, (S₁.fi i hi).2.ext x16 (nX _ (Nat.lt_trans fl_ (ap.h4 i hi)))⟩, S₁.od.ext x16 (nX _ (Nat.lt_trans fl_ ap.hfo))⟩
      clear S₁ T₁ F₅ F₄ F₃ G₁ H₂ H₁ TA y₁
      obtain ⟨rv, Lr, ar⟩ := id S₆.rd
      obtain ⟨v, hv, ov⟩ := atR ar hk'
      have n1 := lkN (y := Str.ofString "source") (v := .int (src : Nat) t3) (lkN (y := Str.ofString "k") (v := .int (k : Nat) t2) (lkN (y := Str.ofString "level") (v := .int (l : Nat) t1) m1))
      have n2 := lkN (y := Str.ofString "source") (v := .int (src : Nat) t3) (lkN (y := Str.ofString "k") (v := .int (k : Nat) t2) (lkN (y := Str.ofString "level") (v := .int (l : Nat) t1) m2))
      have n3 := lkN (y := Str.ofString "source") (v := .int (src : Nat) t3) (lkN (y := Str.ofString "k") (v := .int (k : Nat) t2) (lkN (y := Str.ofString "level") (v := .int (l : Nat) t1) m3))
      have n4 := lkN (y := Str.ofString "source") (v := .int (src : Nat) t3) (lkN (y := Str.ofString "k") (v := .int (k : Nat) t2) (lkN (y := Str.ofString "level") (v := .int (l : Nat) t1) m4))
      have n5 := lkN (y := Str.ofString "source") (v := .int (src : Nat) t3) (lkN (y := Str.ofString "k") (v := .int (k : Nat) t2) (lkN (y := Str.ofString "level") (v := .int (l : Nat) t1) m5))
      have n6 := lkN (y := Str.ofString "source") (v := .int (src : Nat) t3) (lkN (y := Str.ofString "k") (v := .int (k : Nat) t2) (lkN (y := Str.ofString "level") (v := .int (l : Nat) t1) m6))
      have n7 := lkN (y := Str.ofString "source") (v := .int (src : Nat) t3) (lkN (y := Str.ofString "k") (v := .int (k : Nat) t2) (lkN (y := Str.ofString "level") (v := .int (l : Nat) t1) m7))
      have n8 := lkN (y := Str.ofString "source") (v := .int (src : Nat) t3) (lkN (y := Str.ofString "k") (v := .int (k : Nat) t2) (lkN (y := Str.ofString "level") (v := .int (l : Nat) t1) m8))
      refine wpAny_execs_cons ?_
      refine wpAny_If ?_
      refine wpAny_isTrue_Compare1 ?_
      refine Subscript_ ?_
      refine Loc.name F₆ n6 ?_
      refine Loc.name F₆ (lkN lkE) ?_
      refine item Lr (Int.natCast_nonneg k) (k63 hk') hv ?_
      refine wpAny_Constant_none ?_
      refine is_none_gen ?_
      refine wpAny_truthy_bool ?_
      cases hrk : st.rounds k with
      | some m' =>
        rw [show ({ st with heap := rest } : St).rounds k = st.rounds k from rfl, hrk] at ov
        obtain ⟨t', rfl⟩ := ov
        rw [if_neg (by show ¬ ((Value.int (m' : Nat) t' == Value.none) = true); exact Bool.false_ne_true)]
        refine wpAny_execs_nil ?_
        refine wpAny_execs_nil ?_
        have e : turnS (fun k => inM (xsOf ns) k) st (l, k, src) rest = { st with heap := rest } := by
          unfold turnS
          rw [if_neg (by show ¬ (st.rounds k = none); rw [hrk]; exact fun q => nomatch q)]
        rw [e] at inv' mu'
        exact hQ2 _ _ ⟨_, mu', h₆, gs, _, _, _, rfl, y₆, hb, T₆, S₆, inv', rfl, F₆, n1, n2, n3, n4, n5, n6, n7, n8⟩
      | none =>
        rw [show ({ st with heap := rest } : St).rounds k = st.rounds k from rfl, hrk] at ov
        have ov' : v = .none := ov
        subst ov'
        rw [if_pos (by show (Value.none == Value.none) = true; rfl)]
        have rvl : rv.length = 6 := by rw [ar.1, List.length_map, List.length_range]
        have hfk : ∀ i, i < 6 → fs[((i : Nat) : Int).toNat]? = some (.ref (fa i)) := fun i hi => by rw [Int.toNat_natCast]; exact (S₆.fi i hi).1
        have rlS : s.heap.objs.size < rl := Nat.lt_trans hlS rl_
        have flS : s.heap.objs.size < fl := Nat.lt_trans rlS ap.h3
        have olS : s.heap.objs.size < ol := Nat.lt_trans flS ap.hfo
        have rlo : rl < ol := Nat.lt_trans ap.h3 ap.hfo
        have llS : s.heap.objs.size < ll := Nat.lt_trans hlS ap.h1
        have nLx : ∀ b, s.heap.objs.size < b → s.heap.objs.size ≠ b := fun b hb => Nat.ne_of_lt hb
        have tr : turnS (fun k => inM (xsOf ns) k) st (l, k, src) rest = (inM (xsOf ns) k).foldl (one l k) (set1 st rest l k src) := by
          unfold turnS
          rw [if_pos hrk]
        rw [tr] at inv' mu'
        obtain ⟨lv, Lll, al_⟩ := id S₆.lf
        obtain ⟨wk, hwk, uk, hwk'⟩ : ∃ v, wv[((k : Nat) : Int).toNat]? = some v ∧ ∃ u, v = .str (wd k) u := by
          obtain ⟨z, hz1, hz2, _⟩ := wordsAt hk'
          obtain ⟨v, hv, u, e⟩ := hwv.at hz1
          exact ⟨v, by rw [Int.toNat_natCast]; exact hv, u, by rw [e, hz2]; rfl⟩
        subst hwk'
        obtain ⟨⟨f1, f2, f3⟩, f4, f5⟩ := in_form k hk'
        have sel_ := sel_in hrt hk'
        refine wpAny_execs_cons ?_
        refine wpAny_Assign_Subscript ?_
        refine Loc.name F₆ (lkN (lkN lkE)) ?_
        refine Loc.name F₆ n6 ?_
        refine Loc.name F₆ (lkN lkE) ?_
        refine putItem (k := k) Lr (by rw [rvl]; exact hk') (by rw [rvl]; decide) ?_
        intro h₇ Lr₇ x₇
        have F₇ := F₆.ext x₇ (nLx _ rlS)
        have Lo₇ := S₆.od.ext x₇ (Ne.symm (Nat.ne_of_lt rlo))
        have Lf₇ := S₆.fm.ext x₇ (Ne.symm (Nat.ne_of_lt ap.h3))
        refine wpAny_execs_cons ?_
        refine appendS ?_
        refine Loc.name F₇ n8 ?_
        refine ⟨ol, _, rfl, Lo₇, ?_⟩
        refine Subscript_ ?_
        refine Loc.name F₇ n7 ?_
        refine Loc.name F₇ (lkN lkE) ?_
        refine item Lf₇ (Int.natCast_nonneg k) (k63 hk') (hfk k hk') ?_
        refine ⟨_, Lo₇, by rw [List.length_map]; exact Nat.lt_trans ib4 (by decide), ?_⟩
        intro h₈ Lo₈ x₈
        have F₈ := F₇.ext x₈ (nLx _ olS)
        have Lf₈ := Lf₇.ext x₈ (Nat.ne_of_lt ap.hfo)
        have x68 : Ext (fun b => b = rl ∨ b = ol) h₆ h₈ := (x₇.mono fun b q => .inl q).up x₈ fun b q => .inr q
        have nfa : ∀ i, i < 6 → ¬ (fa i = rl ∨ fa i = ol) := fun i hi q => by
          rcases q with q | q
          · exact absurd (ap.h4 i hi) (by rw [q]; exact Nat.not_lt.mpr (Nat.le_of_lt ap.h3))
          · exact absurd (ap.h5 i hi) (by rw [q]; exact Nat.lt_irrefl _)
        have nlr : ∀ b, b < rl → ¬ (b = rl ∨ b = ol) := fun b hb q => by
          rcases q with q | q
          · rw [q] at hb; exact absurd hb (Nat.lt_irrefl _)
          · rw [q] at hb; exact absurd hb (Nat.not_lt.mpr (Nat.le_of_lt rlo))
        have ar₇ := set_rounds (k := k) (l := l) (t := t1) ar
        have H₈ : HR h₈ hl 0 rest := S₆.hp.ext x68 (nlr _ rl_) fun a xs ht _ _ q => by
          rcases q with q | q
          · exact isTuple_ne ht Lr q
          · exact isTuple_ne ht S₆.od q
        have Lo₈' : Ls h₈ ol ((set1 st rest l k src).order.map fun k => .ref (fa k)) := by
          show Ls h₈ ol ((st.order ++ [k]).map _)
          rw [List.map_append]; exact Lo₈
        refine wpAny_execs_cons (wpAny_mono (Q := fun f s' => f = .next ∧ Set4 s' s gs rl ol fa src h₆ hl ll fl fs st rest l k) ?_ ?_ fun _ _ q => q)
        · refine hide fun Q4 hQ4 => ?_
          refine wpAny_If ?_
          refine wpAny_isTrue_Compare1 ?_
          refine Loc.name F₈ lkE ?_
          refine Loc.name F₈ (lkN lkE) ?_
          refine P.ne_int ?_
          refine wpAny_truthy_bool ?_
          by_cases hsk : src = k
          · rw [if_neg (by rw [hsk]; simp)]
            refine wpAny_execs_nil (hQ4 _ _ ⟨rfl, h₈, _, rfl, x68.mono (fun b q => by rcases q with q | q; exact .inl q; exact .inr (.inl q)), H₈, ⟨lv, Lll.ext x68 (nlr _ ap.h2), al_⟩, ⟨_, Lr₇.ext x₈ (Nat.ne_of_lt rlo), ar₇⟩, Lf₈, fun i hi => ⟨(S₆.fi i hi).1, ?_⟩, Lo₈'⟩)
            rw [show (set1 st rest l k src).fam i = st.fam i by unfold set1; dsimp only; rw [if_neg (by rw [hsk]; simp)]]
            exact (S₆.fi i hi).2.ext x68 (nfa i hi)
          · rw [if_pos (by rw [bne_iff_ne]; exact fun q => hsk (Int.ofNat_inj.mp q))]
            obtain ⟨fv, Lfam, afam⟩ := (S₆.fi src hsrc').2.ext x68 (nfa src hsrc')
            have hfl : fv.length < 2 ^ 22 := by rw [afam.1]; exact Nat.lt_trans (ib5 src) (by decide)
            refine wpAny_execs_cons ?_
            refine appendS ?_
            refine Subscript_ ?_
            refine Loc.name F₈ n7 ?_
            refine Loc.name F₈ lkE ?_
            refine item Lf₈ (Int.natCast_nonneg src) (k63 hsrc') (hfk src hsrc') ?_
            refine ⟨fa src, fv, rfl, Lfam, ?_⟩
            refine Loc.name F₈ (lkN lkE) ?_
            refine ⟨fv, Lfam, hfl, ?_⟩
            intro h₉ Lfam₉ x₉
            have nfs : ∀ b, b ≠ fa src → ¬ At (fa src) b := fun b hb q => hb q
            have hfas := ap.h4 src hsrc'
            refine wpAny_execs_nil (hQ4 _ _ ⟨rfl, h₉, _, rfl, (x68.mono fun b q => (by rcases q with q | q; exact .inl q; exact .inr (.inl q) : b = rl ∨ b = ol ∨ b = fa src)).up x₉ (fun b q => .inr (.inr q)), H₈.ext x₉ (Nat.ne_of_lt (Nat.lt_trans fl_ hfas)) (fun a xs ht _ _ q => isTuple_ne ht Lfam q), ⟨lv, (Lll.ext x68 (nlr _ ap.h2)).ext x₉ (Nat.ne_of_lt (Nat.lt_trans (Nat.lt_trans ap.h2 ap.h3) hfas)), al_⟩, ⟨_, (Lr₇.ext x₈ (Nat.ne_of_lt rlo)).ext x₉ (Nat.ne_of_lt (Nat.lt_trans ap.h3 hfas)), ar₇⟩, Lf₈.ext x₉ (Nat.ne_of_lt hfas), fun i hi => ⟨(S₆.fi i hi).1, ?_⟩, Lo₈'.ext x₉ (Ne.symm (Nat.ne_of_lt (ap.h5 src hsrc')))⟩)
            rw [show (set1 st rest l k src).fam i = upd st.fam src (st.fam src ++ [k]) i by unfold set1; dsimp only; rw [if_pos hsk]]
            by_cases hi' : i = src
            · subst hi'
              rw [upd_at]
              exact ⟨_, Lfam₉, afam.append (.cons ⟨t2, rfl⟩ .nil)⟩
            · rw [upd_ne hi']
              exact ((S₆.fi i hi).2.ext x68 (nfa i hi)).ext x₉ fun q => hi' (ap.inj i src hi hsrc' q)
        rintro _ _ ⟨rfl, h₉, tk₉, rfl, x₉, S₉⟩
        have x₉' : ∀ b, (b = rl ∨ b = ol ∨ b = fa src) → s.heap.objs.size < b := fun b q => by
          rcases q with q | q | q
          · rw [q]; exact rlS
          · rw [q]; exact olS
          · rw [q]; exact Nat.lt_trans flS (ap.h4 src hsrc')
        have y₉ := y₆.up x₉ fun b q => .inl (Nat.le_of_lt (x₉' b q))
        have G₉ := G.y y₉ hs
        have F₉ := F₆.ext x₉ fun q => absurd (x₉' _ q) (Nat.lt_irrefl _)
        have T₉ : Tab h₉ 27 23 selQ := T₆.ext x₉ (by decide) (by decide) fun b q => .inr ⟨Nat.lt_trans hs (x₉' b q), by
          rcases q with q | q | q
          · rw [q]; exact .ls Lr
          · rw [q]; exact .ls S₆.od
          · rw [q]; obtain ⟨_, L, _⟩ := (S₆.fi src hsrc').2; exact .ls L⟩
        clear S₆ T₆ F₆ F₇ F₈ Lo₇ Lf₇ Lo₈ Lf₈ x68 H₈ Lo₈' H₆ x₇ x₈ Lr₇ y₆ G₆
        have LN9 := F₉.lt
        refine wpAny_execs_cons ?_
        refine For_ ?_
        refine evalSel G₉ ?_
        refine wpAny_BinOp ?_
        refine Constant_str ?_
        refine Subscript_ ?_
        refine Loc.name F₉ n2 ?_
        refine Loc.name F₉ (lkN lkE) ?_
        refine item (hW.ext y₉ (nY ltW hw1)) (Int.natCast_nonneg k) (k63 hk') hwk ?_
        refine PyProof.Rows.add_str ?_ ?_
        rotate_left
        · exact small2 (m := 3) (by decide) f5
        intro t7 tk7
        refine ⟨_, _, _, ra, lo, hi, rt, _, rfl, prep3 (s := { s with heap := h₉, gens := _, toks := _ }) G₉ (R3 _) (Nat.lt_trans hs LN9) T₉ f4 f1 f2 f3, G₉, Nat.le_trans hhi (Nat.le_of_lt LN9), hR.ext y₉ (nY ltR hr1), fun v t mm => ⟨(hel v t mm).1.y y₉ hhi hlo, (hel v t mm).2⟩, hlo, hr1, hs, F₉, n4, ?_⟩
        intro a' g' h₁₀ gs₁₀ tk₁₀ Fr hFr hFr' x₁₀ TM hb₁₀ hgen Fd
        refine wpAny_pyIter_gen hgen ?_
        have hFr9 : h₉.objs.size ≤ Fr := hFr
        have lt_hl : hl < h₉.objs.size := let ⟨_, L, _⟩ := S₉.hp; L.lt
        have lt_ll : ll < h₉.objs.size := let ⟨_, L, _⟩ := S₉.lf; L.lt
        have lt_rl : rl < h₉.objs.size := let ⟨_, L, _⟩ := S₉.rd; L.lt
        have lt_fl : fl < h₉.objs.size := S₉.fm.lt
        have lt_ol : ol < h₉.objs.size := S₉.od.lt
        have lt_fa : ∀ i, i < 6 → fa i < h₉.objs.size := fun i hi => let ⟨_, L, _⟩ := (S₉.fi i hi).2; L.lt
        have n23 : ∀ b, 114 < b → ¬ At 23 b := fun b hb z => by rw [show b = 23 from z] at hb; exact absurd hb (by decide)
        have hi_ : ∀ b, s.heap.objs.size < b → 114 < b := fun b hb => Nat.lt_trans hs hb
        have faS : ∀ i, i < 6 → s.heap.objs.size < fa i := fun i hi => Nat.lt_trans flS (ap.h4 i hi)
        have S₁₀ : SR h₁₀ fa hl ll rl fl ol fs Fr (set1 st rest l k src) := (S₉.bad (.inl hFr9)).ext x₁₀ (n23 _ hl114) (n23 _ (hi_ _ llS)) (n23 _ (hi_ _ rlS)) (n23 _ (hi_ _ flS)) (n23 _ (hi_ _ olS)) (fun i hi => n23 _ (hi_ _ (faS i hi))) fun a xs _ ha _ => n23 _ ha
        refine genLoop (fun j s' => Set3 s' s Fr fa hl ll rl fl ol fs ns l k st rest src j wl pl ra t1 t2) Fd hFr9 ?_ ?_ ?_ ?_
        · exact ⟨h₁₀, gs₁₀, tk₁₀, _, rfl, y₉.up x₁₀ (fun b q => .inr q), fun b => hb₁₀ (hb b), TM, S₁₀, F₉.ext x₁₀ (n23 _ hs), hFr', ⟨n1, n2, n3, n4, n5, n6, n7, n8⟩, lkN (lkN lkE), lkN lkE⟩
        · rintro j _ h gs₅ tk₅ ⟨h₀', gs', tk', m', rfl, y', hb', TM', S', F', hF', mm, p1, p2⟩ hz x hbb
          have xn : Ext (Nw h₉.objs.size) h₀' h := vnUp x hFr9
          have nw : ∀ b, b < h₉.objs.size → ¬ Vn Fr h₉.objs.size h₀' b := fun b hb q => by
            rcases q with q | q
            · rw [q] at hb; exact absurd hb (Nat.not_lt.mpr hFr9)
            · exact absurd hb (Nat.not_lt.mpr q.1)
          refine ⟨h, gs₅, tk₅, m', rfl, y'.up xn (fun b q => .inl (Nat.le_trans (Nat.le_of_lt LN9) q)), fun b => hbb (hb' b), TM'.vn x (by decide) (by decide) (Nat.lt_trans hs LN9) hFr9 (Nat.le_refl _), S'.ext x (nw _ lt_hl) (nw _ lt_ll) (nw _ lt_rl) (nw _ lt_fl) (nw _ lt_ol) (fun i hi => nw _ (lt_fa i hi)) (fun a xs ht _ ne q => ?_), F'.ext x (nw _ LN9), Nat.lt_of_lt_of_le hF' hz, mm, p1, p2⟩
          rcases q with q | q
          · exact ne q
          · exact tupLI ht q.2
        · rintro j v _ hj ⟨h₀', gs', tk', m', rfl, y', hb', TM', S', F', hF', ⟨q1, q2, q3, q4, q5, q6, q7, q8⟩, p1, p2⟩
          refine hideB fun Q5 hQ5 => ?_
          obtain ⟨n, hn, un, hmem⟩ := sel_.at' hj
          have hnp : startsPlain n = true ∧ n.cps.size < 100 := by
            cases j with
            | zero =>
              have e : wd k = n := Option.some.inj hn
              rw [← e]; exact ⟨(plain_word k hk').2.1, (plain_word k hk').2.2.1⟩
            | succ j' =>
              rw [List.getElem?_cons_succ, List.getElem?_map] at hn
              cases hx : (Xin (xsOf ns) k)[j']? with
              | none => rw [hx] at hn; cases hn
              | some x =>
                rw [hx] at hn
                have e : tagS x = n := Option.some.inj hn
                rw [← e, tagS_eq]
                have := plain_tag (srcI x) (srcI_lt x) (tgtI x) (tgtI_lt x) (kindI x == 7) (kindI x == 6)
                exact this.2
          have hHl : (stj ns l k (set1 st rest l k src) j).heap.length < 1000 := by
            have h1 := stj_len ns l k (set1 st rest l k src) j
            have h2 : (set1 st rest l k src).heap.length ≤ ys.length := by
              have := hpop_len ltN ys z
              rw [hpr] at this
              exact Nat.le_of_eq this
            rw [hz', List.length_append, List.length_singleton] at ib3
            omega
          have G' := G.y y' hs
          refine wpAny_assign_Name ?_
          refine Loc.storeZ F' ?_
          intro h₁₁ F₁₁ x₁₁ z₁₁
          have y₁₁ := y'.up x₁₁ yL
          have G₁₁ := G.y y₁₁ hs
          have El1 := (hel v _ hmem).1.y y₁₁ hhi hlo
          refine wpAny_execs_cons ?_
          refine wpAny_Assign_Name ?_
          refine callG (f := 85) G₁₁ (by kernel_rfl) rfl rfl ?_
          refine args_cons ?_
          refine Attribute_Name_ ?_
          refine Loc.name F₁₁ lkE ?_
          refine getTag El1 (hoOk (hel v _ hmem).2) ?_
          intro tk12
          refine args_nil ?_
          refine ⟨G₁₁, useS (octets_spec (s := { s with heap := h₁₁, gens := _, toks := _ }) G₁₁ (R6 _) (Around.frames_deeper hfr) (Fs.cons (FS.y y₁₁ (Nat.le_refl _)) (by show ScopeKind.function ≠ ScopeKind.module; decide) rfl hs hbn F₁₁) (Nat.lt_trans hs F₁₁.lt) (Nat.le_trans hbn (Nat.le_of_lt F₁₁.lt)) (Nat.lt_trans hnp.2 (by decide)) hnp.1) ?_⟩
          rintro r s' ⟨h₁₂, tk₁₂, ov, rfl, rfl, x₁₂, hov⟩ z₁₂
          refine ⟨_, rfl, ?_⟩
          refine Loc.storeZ (F₁₁.ext x₁₂ id) ?_
          intro h₁₃ F₁₃ x₁₃ z₁₃
          have e13 : Ext (At s.heap.objs.size) h₀' h₁₃ := (x₁₁.up x₁₂ fun _ q => q.elim).trans x₁₃
          have hF13 : Fr < h₁₃.objs.size := Nat.lt_of_lt_of_le hF' (Nat.le_trans z₁₁ (Nat.le_trans z₁₂ z₁₃))
          have y₁₃ := y'.up e13 yL
          have G₁₃ := G.y y₁₃ hs
          have nL' : ∀ b, s.heap.objs.size < b → ¬ At s.heap.objs.size b := fun b hb q => absurd hb (by rw [show b = s.heap.objs.size from q]; exact Nat.lt_irrefl _)
          have S₁₃ := S'.ext e13 (nL' _ hlS) (nL' _ llS) (nL' _ rlS) (nL' _ flS) (nL' _ olS) (fun i hi => nL' _ (faS i hi)) fun a xs ht _ _ q => tupNsE ht F' q
          have TM₁₃ : TabM h₁₃ 27 23 selQ Fr := TM'.ext e13 (by decide) (by decide) fun b q => .inr ⟨by rw [show b = s.heap.objs.size from q]; exact hs, .inl (by rw [show b = s.heap.objs.size from q]; exact .ns F')⟩
          have wrL : Wr lo hi ra h₉.objs.size h₁₀.objs.size h₀' s.heap.objs.size := wr_of hs hhi ltR LN9 (nsNLI F')
          have wrH : Wr lo hi ra h₉.objs.size h₁₀.objs.size h₀' hl := wr_of hl114 (Nat.le_trans hhi (Nat.le_of_lt hlS)) (Nat.lt_trans ltR hlS) lt_hl (let ⟨_, L, _⟩ := S'.hp; lsNLI L)
          have wrl : Wr lo hi ra h₉.objs.size h₁₀.objs.size h₀' ll := wr_of (hi_ _ llS) (Nat.le_trans hhi (Nat.le_of_lt llS)) (Nat.lt_trans ltR llS) lt_ll (let ⟨_, L, _⟩ := S'.lf; lsNLI L)
          have o1 := lkN (y := Str.ofString "octets") (v := ov) (lkN (y := Str.ofString "element") (v := v) q1)
          have o2 := lkN (y := Str.ofString "octets") (v := ov) (lkN (y := Str.ofString "element") (v := v) q2)
          have o3 := lkN (y := Str.ofString "octets") (v := ov) (lkN (y := Str.ofString "element") (v := v) q3)
          have o4 := lkN (y := Str.ofString "octets") (v := ov) (lkN (y := Str.ofString "element") (v := v) q4)
          have o5 := lkN (y := Str.ofString "octets") (v := ov) (lkN (y := Str.ofString "element") (v := v) q5)
          have o6 := lkN (y := Str.ofString "octets") (v := ov) (lkN (y := Str.ofString "element") (v := v) q6)
          have o7 := lkN (y := Str.ofString "octets") (v := ov) (lkN (y := Str.ofString "element") (v := v) q7)
          have o8 := lkN (y := Str.ofString "octets") (v := ov) (lkN (y := Str.ofString "element") (v := v) q8)
          have r1 := lkN (y := Str.ofString "octets") (v := ov) (lkN (y := Str.ofString "element") (v := v) p1)
          have r2 := lkN (y := Str.ofString "octets") (v := ov) (lkN (y := Str.ofString "element") (v := v) p2)
          clear S' TM' G' G₁₁ El1 x₁₁ x₁₂ x₁₃ z₁₁ z₁₂ z₁₃ F₁₁ y₁₁
          have hskip : stj ns l k (set1 st rest l k src) (j + 1) = stj ns l k (set1 st rest l k src) j → ∀ (SS : Shared) tk, SS = { s with heap := h₁₃, gens := gs', toks := tk } → Set3 SS s Fr fa hl ll rl fl ol fs ns l k st rest src (j + 1) wl pl ra t1 t2 :=
            fun e SS tk q => ⟨h₁₃, gs', tk, _, q, y₁₃, hb', TM₁₃, by rw [e]; exact S₁₃, F₁₃, hF13, ⟨o1, o2, o3, o4, o5, o6, o7, o8⟩, r1, r2⟩
          refine wpAny_execs_cons ?_
          refine wpAny_If ?_
          refine wpAny_isTrue_BoolOp ?_
          refine wpAny_allTrue_And_cons ?_
          refine wpAny_isTrue_value ?_
          refine isinst_ G₁₃ ?_
          refine Loc.name F₁₃ lkE ?_
          refine Gd.built G₁₃ (nsIn_bytes _) boot_bytes' ?_
          cases hps : plainS n with
          | false =>
            unfold OV at hov
            rw [hps] at hov
            obtain ⟨t8, rfl⟩ := hov
            refine IsiPair.str_bytes ?_
            refine wpAny_truthy_bool ?_
            rw [if_neg Bool.false_ne_true, if_neg Bool.false_ne_true]
            refine wpAny_execs_nil ?_
            refine wpAny_execs_nil ?_
            refine hQ5 _ _ ⟨rfl, hskip ?_ _ _ rfl, e13.mono (fun b q => by rw [show b = s.heap.objs.size from q]; exact wrL), rfl⟩
            cases j with
            | zero => rfl
            | succ j' =>
              rw [List.getElem?_cons_succ, List.getElem?_map] at hn
              cases hx : (Xin (xsOf ns) k)[j']? with
              | none => rw [hx] at hn; cases hn
              | some x =>
                rw [hx] at hn
                have e : tagS x = n := Option.some.inj hn
                refine stj_skip hx ?_
                have hxp := (List.mem_filter.mp (List.mem_of_getElem? hx)).2
                rw [Bool.and_eq_true] at hxp
                have h6 : (kindI x == 6) = false := by have := hxp.2; revert this; cases kindI x == 6 <;> simp
                have := (plain_tag (srcI x) (srcI_lt x) (tgtI x) (tgtI_lt x) (kindI x == 7) (kindI x == 6)).1
                rw [← tagS_eq, e, hps, h6] at this
                revert this; cases kindI x == 7 <;> simp
          | true =>
            unfold OV at hov
            rw [hps] at hov
            obtain ⟨t8, rfl⟩ := hov
            refine isi_bytes_bytes ?_
            refine wpAny_truthy_bool ?_
            rw [if_pos rfl]
            refine wpAny_allTrue_And_cons ?_
            refine wpAny_isTrue_Compare1 ?_
            refine Subscript_ ?_
            refine Loc.name F₁₃ lkE ?_
            refine wpAny_Constant_int ?_
            have szn : (octs n).size < 1000 := by
              show (n.cps.map Nat.toUInt8).size < 1000
              rw [Array.size_map]; exact Nat.lt_trans hnp.2 (by decide)
            cases j with
            | zero =>
              have e : wd k = n := Option.some.inj hn
              subst e
              obtain ⟨_, _, _, w4, w5⟩ := plain_word k hk'
              refine byte0 w5 szn ?_
              intro t9 tk9
              refine wpAny_Constant_int ?_
              refine P.eq_int ?_
              refine wpAny_truthy_bool ?_
              rw [if_neg (by rw [beq_iff_eq]; exact fun q => w4 (Int.ofNat_inj.mp q)), if_neg Bool.false_ne_true]
              refine wpAny_execs_nil ?_
              refine wpAny_execs_nil ?_
              exact hQ5 _ _ ⟨rfl, hskip rfl _ _ rfl, e13.mono (fun b q => by rw [show b = s.heap.objs.size from q]; exact wrL), rfl⟩
            | succ j' =>
              rw [List.getElem?_cons_succ, List.getElem?_map] at hn
              cases hx : (Xin (xsOf ns) k)[j']? with
              | none => rw [hx] at hn; cases hn
              | some x =>
                rw [hx] at hn
                have e : tagS x = n := Option.some.inj hn
                have hxp := (List.mem_filter.mp (List.mem_of_getElem? hx)).2
                rw [Bool.and_eq_true] at hxp
                have htgt : tgtI x = k := eq_of_beq hxp.1
                have h6 : (kindI x == 6) = false := by have := hxp.2; revert this; cases kindI x == 6 <;> simp
                have h7 : (kindI x == 7) = false := by
                  have := (plain_tag (srcI x) (srcI_lt x) (tgtI x) (tgtI_lt x) (kindI x == 7) (kindI x == 6)).1
                  rw [← tagS_eq, e, hps, h6] at this
                  revert this; cases kindI x == 7 <;> simp
                subst e
                have tg : octs (tagS x) = octs (tagB false false (srcI x) (tgtI x)) := by rw [tagS_eq, h6, h7]
                obtain ⟨c1, c2, c3, _⟩ := cut_src (srcI x) (srcI_lt x) (tgtI x) (tgtI_lt x)
                rw [← tg, htgt] at c1
                rw [← tg] at c2 c3
                have hsx := srcI_lt x
                have hnew := stj_one (l := l) (k := k) (st1 := set1 st rest l k src) hx h7
                refine byte0 c3 szn ?_
                intro t9 tk9
                refine wpAny_Constant_int ?_
                refine P.eq_int ?_
                refine wpAny_truthy_bool ?_
                rw [if_pos (by rw [c2]; rfl)]
                refine wpAny_allTrue_And_nil ?_
                rw [if_pos rfl]
                obtain ⟨lv', Ll13, al'⟩ := id S₁₃.lf
                obtain ⟨vj, hvj, tj, evj⟩ := atR al' hsx
                subst evj
                have lv'l : lv'.length = 6 := by rw [al'.1, List.length_map, List.length_range]
                obtain ⟨rv₂, Lr13, ar₂⟩ := id S₁₃.rd
                obtain ⟨vr, hvr, ovr⟩ := atR ar₂ hsx
                have nll : ∀ b, ll < b → ¬ At ll b := fun b hb q => absurd hb (by rw [show b = ll from q]; exact Nat.lt_irrefl _)
                obtain ⟨stc, hstc⟩ : ∃ stc, stc = stj ns l k (set1 st rest l k src) (j' + 1) := ⟨_, rfl⟩
                rw [← hstc] at S₁₃ al' hvj ar₂ ovr hnew hHl
                obtain ⟨L2, hL2⟩ : ∃ L2, L2 = (one l k stc (srcI x)).left := ⟨_, rfl⟩
                have ho1 : l % 2 = 1 → L2 = upd stc.left (srcI x) (stc.left (srcI x) - 1) := fun h => by rw [hL2]; unfold one; dsimp only; rw [if_pos h]
                have ho2 : ¬ l % 2 = 1 → L2 = stc.left := fun h => by rw [hL2]; unfold one; dsimp only; rw [if_neg h]
                have hone : stj ns l k (set1 st rest l k src) (j' + 1 + 1) = { stc with left := L2, heap := if stc.rounds (srcI x) = none ∧ (l % 2 = 0 ∨ L2 (srcI x) = 0) then hpush ltN stc.heap (l + 1, srcI x, k) else stc.heap } := by rw [hnew, hL2]; rfl
                have hA1 : ∀ t, l % 2 = 1 → (All2 IV (lv'.set (srcI x) (.int (stc.left (srcI x) - 1) t)) ((List.range 6).map L2) ∧ ∃ t', (lv'.set (srcI x) (.int (stc.left (srcI x) - 1) t))[((srcI x : Nat) : Int).toNat]? = some (.int (L2 (srcI x)) t')) := fun t h => atIV (by rw [ho1 h]; exact set_left al') hsx
                have hA2 : ¬ l % 2 = 1 → (All2 IV lv' ((List.range 6).map L2) ∧ ∃ t', lv'[((srcI x : Nat) : Int).toNat]? = some (.int (L2 (srcI x)) t')) := fun h => atIV (by rw [ho2 h]; exact al') hsx
                have hodd1 : l % 2 = 1 → ((l : Int).fmod 2 == 1) = true := fun h => (fmod2 l).1.trans (decide_eq_true h)
                have hodd2 : ¬ l % 2 = 1 → ¬ ((l : Int).fmod 2 == 1) = true := fun h q => h (of_decide_eq_true ((fmod2 l).1.symm.trans q))
                have hev1 : l % 2 = 0 → ((l : Int).fmod 2 == 0) = true := fun h => (fmod2 l).2.trans (decide_eq_true h)
                have hev2 : ¬ l % 2 = 0 → ¬ ((l : Int).fmod 2 == 0) = true := fun h q => h (of_decide_eq_true ((fmod2 l).2.symm.trans q))
                clear hstc hL2 hnew hskip
                have el : ((l + 1 : Nat) : Int) = (l : Int) + 1 := Int.natCast_succ l
                refine wpAny_execs_cons ?_
                refine wpAny_with_size ?_
                refine wpAny_Assign_Name ?_
                refine index_ ?_
                refine Loc.name F₁₃ o3 ?_
                refine ⟨pl, pv, rfl, hP.ext y₁₃ (nY ltP hp1), ?_⟩
                refine cutB ?_
                refine Loc.name F₁₃ lkE ?_
                refine partLit ?_
                intro ta tka
                refine evalPart_some_step ?_
                refine wpAny_BinOp ?_
                refine wpAny_BinOp ?_
                refine lenB G₁₃ ?_
                refine Loc.name F₁₃ lkE ?_
                refine ⟨octs (tagS x), t8, rfl, szn, fun tb tkb => ?_⟩
                refine lenS G₁₃ ?_
                refine Subscript_ ?_
                refine Loc.name F₁₃ o2 ?_
                refine Loc.name F₁₃ r2 ?_
                refine item (hW.ext y₁₃ (nY ltW hw1)) (Int.natCast_nonneg k) (k63 hk') hwk ?_
                refine ⟨wd k, uk, rfl, Nat.lt_of_le_of_lt f5 (by decide), fun tc tkc => ?_⟩
                refine P.sub_int ?_
                refine wpAny_Constant_int ?_
                refine P.sub_int ?_
                refine ⟨octs (tagS x), t8, some 1, some ((octs (tagS x)).size - (wd k).length - 1 : Int), rfl, .int _ _, .int _ _, szn, fun h₁₄ td tkd x₁₄ => ?_⟩
                have y₁₄ := y₁₃.up x₁₄ fun _ q => q.elim
                refine ⟨pv, srcI x, hP.ext y₁₄ (nY ltP hp1), hpv, hsx, ⟨td, by rw [c1]; rfl⟩, fun te tke => ?_⟩
                refine Loc.store (F₁₃.ext x₁₄ id) ?_
                intro h₁₅ F₁₅ x₁₅ z₁₅
                have e15 : Ext (At s.heap.objs.size) h₁₃ h₁₅ := (x₁₄.mono fun _ q => q.elim).trans x₁₅
                have y₁₅ := y₁₃.up e15 yL
                have S₁₅ := S₁₃.ext e15 (nL' _ hlS) (nL' _ llS) (nL' _ rlS) (nL' _ flS) (nL' _ olS) (fun i hi => nL' _ (faS i hi)) fun a xs ht _ _ q => tupNsE ht F₁₃ q
                have TM₁₅ : TabM h₁₅ 27 23 selQ Fr := TM₁₃.ext e15 (by decide) (by decide) fun b q => .inr ⟨by rw [show b = s.heap.objs.size from q]; exact hs, .inl (by rw [show b = s.heap.objs.size from q]; exact .ns F₁₃)⟩
                have Ll' := Ll13.ext e15 (nL' _ llS)
                refine wpAny_execs_cons (wpAny_mono (Q := fun f s' => f = .next ∧ Set5 s' s gs' ll h₁₅ L2 x) ?_ ?_ fun _ _ q => q)
                · refine hide fun Q6 hQ6 => ?_
                  refine wpAny_If ?_
                  refine wpAny_isTrue_Compare1 ?_
                  refine wpAny_BinOp ?_
                  refine Loc.name F₁₅ (lkN r1) ?_
                  refine wpAny_Constant_int ?_
                  refine mod_int' (by decide) ?_
                  refine wpAny_Constant_int ?_
                  refine P.eq_int ?_
                  refine wpAny_truthy_bool ?_
                  by_cases hodd : l % 2 = 1
                  · rw [if_pos (hodd1 hodd)]
                    refine wpAny_execs_cons ?_
                    refine wpAny_Assign_Subscript ?_
                    refine wpAny_BinOp ?_
                    refine Subscript_ ?_
                    refine Loc.name F₁₅ (lkN o5) ?_
                    refine Loc.name F₁₅ lkE ?_
                    refine item Ll' (Int.natCast_nonneg _) (k63 hsx) hvj ?_
                    refine wpAny_Constant_int ?_
                    refine P.sub_int ?_
                    refine Loc.name F₁₅ (lkN o5) ?_
                    refine Loc.name F₁₅ lkE ?_
                    refine wpAny_with_size ?_
                    refine putItem (k := srcI x) Ll' (by rw [lv'l]; exact hsx) (by rw [lv'l]; decide) ?_
                    intro h₁₆ Ll₁₆ x₁₆ z₁₆
                    exact wpAny_execs_nil (hQ6 _ _ ⟨rfl, h₁₆, _, rfl, x₁₆, z₁₆, _, Ll₁₆, hA1 _ hodd⟩)
                  · rw [if_neg (hodd2 hodd)]
                    exact wpAny_execs_nil (hQ6 _ _ ⟨rfl, h₁₅, _, rfl, Ext.refl _ _, Nat.le_refl _, _, Ll', hA2 hodd⟩)
                rintro _ _ ⟨rfl, h₁₆, tk₁₆, rfl, x₁₆, z₁₆, lv₂, Ll₂, al₂, tl, hvl⟩
                have H₁₆ : HR h₁₆ hl Fr stc.heap := S₁₅.hp.ext x₁₆ (Nat.ne_of_lt ap.h1) fun a xs ht _ _ q => isTuple_ne ht Ll' q
                have Lr₂ := (Lr13.ext e15 (nL' _ rlS)).ext x₁₆ (nll _ ap.h2)
                have Lf₂ := S₁₅.fm.ext x₁₆ (nll _ (Nat.lt_trans ap.h2 ap.h3))
                have Lo₂ := S₁₅.od.ext x₁₆ (nll _ (Nat.lt_trans (Nat.lt_trans ap.h2 ap.h3) ap.hfo))
                have fi₂ : ∀ i, i < 6 → fs[i]? = some (.ref (fa i)) ∧ LN h₁₆ (fa i) (stc.fam i) := fun i hi => ⟨(S₁₅.fi i hi).1, (S₁₅.fi i hi).2.ext x₁₆ (nll _ (Nat.lt_trans (Nat.lt_trans ap.h2 ap.h3) (ap.h4 i hi)))⟩
                have F₁₆ := F₁₅.ext x₁₆ (Nat.ne_of_lt llS)
                have y₁₆ := y₁₅.up x₁₆ fun b q => .inl (by rw [show b = ll from q]; exact Nat.le_of_lt llS)
                have G₁₆ := G.y y₁₆ hs
                have TM₁₆ : TabM h₁₆ 27 23 selQ Fr := TM₁₅.ext x₁₆ (by decide) (by decide) fun b q => .inr ⟨by rw [show b = ll from q]; exact hi_ _ llS, .inl (by rw [show b = ll from q]; exact .ls Ll')⟩
                have e16 : Ext (fun b => b = s.heap.objs.size ∨ b = ll) h₀' h₁₆ := (((e13.trans e15).mono fun b q => (.inl q : b = s.heap.objs.size ∨ b = ll))).up x₁₆ fun b q => .inr q
                have F16 : Fr < h₁₆.objs.size := Nat.lt_of_lt_of_le hF13 (Nat.le_trans z₁₅ z₁₆)
                have wX : ∀ b, (b = s.heap.objs.size ∨ b = ll ∨ b = hl) → Wr lo hi ra h₉.objs.size h₁₀.objs.size h₀' b := fun b q => by
                  rcases q with q | q | q <;> obtain rfl := q.symm
                  · exact wrL
                  · exact wrl
                  · exact wrH
                refine wpAny_execs_cons (wpAny_If (wpAny_mono (Q := fun b s' => b = decide (stc.rounds (srcI x) = none ∧ (l % 2 = 0 ∨ L2 (srcI x) = 0)) ∧ ∃ tk, s' = { s with heap := h₁₆, gens := gs', toks := tk }) ?_ ?_ fun _ _ q => q))
                · refine hide fun Q7 hQ7 => ?_
                  refine wpAny_isTrue_BoolOp ?_
                  refine wpAny_allTrue_And_cons ?_
                  refine wpAny_isTrue_Compare1 ?_
                  refine Subscript_ ?_
                  refine Loc.name F₁₆ (lkN o6) ?_
                  refine Loc.name F₁₆ lkE ?_
                  refine item Lr₂ (Int.natCast_nonneg _) (k63 hsx) hvr ?_
                  refine wpAny_Constant_none ?_
                  refine is_none_gen ?_
                  refine wpAny_truthy_bool ?_
                  cases hrj : stc.rounds (srcI x) with
                  | some m₂ =>
                    rw [hrj] at ovr
                    obtain ⟨t', rfl⟩ := ovr
                    rw [if_neg (by show ¬ ((Value.int (m₂ : Nat) t' == Value.none) = true); exact Bool.false_ne_true)]
                    exact hQ7 _ _ ⟨(decide_eq_false fun q => by have z := q.1; rw [hrj] at z; cases z).symm, _, rfl⟩
                  | none =>
                    rw [hrj] at ovr
                    have ovr' : vr = .none := ovr
                    subst ovr'
                    rw [if_pos (by show (Value.none == Value.none) = true; rfl)]
                    refine wpAny_allTrue_And_cons ?_
                    refine wpAny_isTrue_BoolOp ?_
                    refine wpAny_allTrue_Or_cons ?_
                    refine wpAny_isTrue_Compare1 ?_
                    refine wpAny_BinOp ?_
                    refine Loc.name F₁₆ (lkN r1) ?_
                    refine wpAny_Constant_int ?_
                    refine mod_int' (by decide) ?_
                    refine wpAny_Constant_int ?_
                    refine P.eq_int ?_
                    refine wpAny_truthy_bool ?_
                    by_cases hev : l % 2 = 0
                    · rw [if_pos (hev1 hev), if_pos rfl]
                      exact wpAny_allTrue_And_nil (hQ7 _ _ ⟨(decide_eq_true ⟨hrj, .inl hev⟩).symm, _, rfl⟩)
                    · rw [if_neg (hev2 hev)]
                      refine wpAny_allTrue_Or_cons ?_
                      refine wpAny_isTrue_Compare1 ?_
                      refine Subscript_ ?_
                      refine Loc.name F₁₆ (lkN o5) ?_
                      refine Loc.name F₁₆ lkE ?_
                      refine item Ll₂ (Int.natCast_nonneg _) (k63 hsx) hvl ?_
                      refine wpAny_Constant_int ?_
                      refine P.eq_int ?_
                      refine wpAny_truthy_bool ?_
                      by_cases hz0 : L2 (srcI x) = 0
                      · rw [if_pos (show (L2 (srcI x) == 0) = true from beq_iff_eq.mpr hz0), if_pos rfl]
                        exact wpAny_allTrue_And_nil (hQ7 _ _ ⟨(decide_eq_true ⟨hrj, .inr hz0⟩).symm, _, rfl⟩)
                      · rw [if_neg (show ¬ ((L2 (srcI x) == 0) = true) from fun q => hz0 (beq_iff_eq.mp q))]
                        refine wpAny_allTrue_Or_nil ?_
                        rw [if_neg Bool.false_ne_true]
                        exact hQ7 _ _ ⟨(decide_eq_false fun q => q.2.elim hev hz0).symm, _, rfl⟩
                rintro _ _ ⟨rfl, tk₁₇, rfl⟩
                by_cases hc : stc.rounds (srcI x) = none ∧ (l % 2 = 0 ∨ L2 (srcI x) = 0)
                · rw [if_pos (decide_eq_true hc)]
                  rw [if_pos hc] at hone
                  refine wpAny_execs_cons ?_
                  refine wpAny_Expr ?_
                  refine callG (f := 43) G₁₆ (by kernel_rfl) rfl rfl ?_
                  refine args_cons ?_
                  refine Loc.name F₁₆ (lkN o1) ?_
                  refine args_cons ?_
                  refine Tuple_ ?_
                  refine args_cons ?_
                  refine wpAny_BinOp ?_
                  refine Loc.name F₁₆ (lkN r1) ?_
                  refine wpAny_Constant_int ?_
                  refine P.add_int ?_
                  refine args_cons ?_
                  refine Loc.name F₁₆ lkE ?_
                  refine args_cons ?_
                  refine Loc.name F₁₆ (lkN r2) ?_
                  refine args_nil ?_
                  refine newT (by show 3 < 100; decide) ?_
                  intro DT h₁₇ hDT TD x₁₇
                  refine args_nil ?_
                  have hDT' : DT = h₁₆.objs.size := hDT
                  have hFD : Fr < DT := by rw [hDT']; exact F16
                  have hDn : DT ≠ Fr := Ne.symm (Nat.ne_of_lt hFD)
                  have hD114 : 114 < DT := Nat.lt_of_le_of_lt (Nat.le_trans (Nat.le_of_lt (Nat.lt_trans hs LN9)) hFr9) hFD
                  have y₁₇ := y₁₆.up x₁₇ fun _ q => q.elim
                  have G₁₇ := G.y y₁₇ hs
                  have H₁₇ := H₁₆.ext x₁₇ id fun _ _ _ _ _ q => q
                  have lt17 : Fr < h₁₇.objs.size := Nat.lt_trans hFD (let ⟨_, ho, _⟩ := TD; Heap.lt_size ho)
                  rw [← el] at TD
                  refine ⟨G₁₇, useS (pushHR (l := l + 1) (j := srcI x) (k := k) (s := { s with heap := h₁₇, gens := _, toks := _ }) G₁₇ (R7 _) hl114 H₁₇ hHl hDn hD114 TD) ?_⟩
                  rintro r s' ⟨h₁₈, tk₁₈, rfl, rfl, x₁₈, H₁₈⟩ z₁₈
                  refine ⟨_, rfl, ?_⟩
                  refine wpAny_execs_nil ?_
                  refine wpAny_execs_nil ?_
                  refine wpAny_execs_nil ?_
                  have e18 : Ext (At hl) h₁₆ h₁₈ := (x₁₇.mono fun _ q => q.elim).trans x₁₈
                  have nhl : ∀ b, hl < b → ¬ At hl b := fun b hb q => absurd hb (by rw [show b = hl from q]; exact Nat.lt_irrefl _)
                  refine hQ5 _ _ ⟨rfl, ⟨h₁₈, gs', _, _, rfl, y₁₆.up e18 (fun b q => .inl (by rw [show b = hl from q]; exact Nat.le_of_lt hlS)), hb', TM₁₆.ext e18 (by decide) (by decide) (fun b q => .inr ⟨by rw [show b = hl from q]; exact hl114, .inl (by rw [show b = hl from q]; obtain ⟨_, L, _⟩ := H₁₆; exact .ls L)⟩), ?_, F₁₆.ext e18 (Ne.symm nhL), Nat.lt_of_lt_of_le lt17 z₁₈, ⟨lkN o1, lkN o2, lkN o3, lkN o4, lkN o5, lkN o6, lkN o7, lkN o8⟩, lkN r1, lkN r2⟩, (((e16.mono fun b q => by rcases q with q | q; exact .inl q; exact .inr (.inl q)).up e18 (fun b q => .inr (.inr q)) : Ext (fun b => b = s.heap.objs.size ∨ b = ll ∨ b = hl) h₀' h₁₈)).mono wX, rfl⟩
                  rw [hone]
                  exact ⟨H₁₈, ⟨lv₂, Ll₂.ext e18 (nhl _ ap.h1), al₂⟩, ⟨rv₂, Lr₂.ext e18 (nhl _ rl_), ar₂⟩, Lf₂.ext e18 (nhl _ fl_), fun i hi => ⟨(fi₂ i hi).1, (fi₂ i hi).2.ext e18 (nhl _ (Nat.lt_trans fl_ (ap.h4 i hi)))⟩, Lo₂.ext e18 (nhl _ (Nat.lt_trans fl_ ap.hfo))⟩
                · rw [if_neg (by rw [decide_eq_false hc]; exact Bool.false_ne_true)]
                  rw [if_neg hc] at hone
                  refine wpAny_execs_nil ?_
                  refine wpAny_execs_nil ?_
                  refine wpAny_execs_nil ?_
                  refine hQ5 _ _ ⟨rfl, ⟨h₁₆, gs', _, _, rfl, y₁₆, hb', TM₁₆, ?_, F₁₆, F16, ⟨lkN o1, lkN o2, lkN o3, lkN o4, lkN o5, lkN o6, lkN o7, lkN o8⟩, lkN r1, lkN r2⟩, ((e16.mono fun b q => by rcases q with q | q; exact .inl q; exact .inr (.inl q) : Ext (fun b => b = s.heap.objs.size ∨ b = ll ∨ b = hl) h₀' h₁₆)).mono wX, rfl⟩
                  rw [hone]
                  exact ⟨H₁₆, ⟨lv₂, Ll₂, al₂⟩, ⟨rv₂, Lr₂, ar₂⟩, Lf₂, fi₂, Lo₂⟩
        · rintro _ ⟨h₀', gs', tk', m', rfl, y', hb', TM', S', F', hF', mm, p1, p2⟩
          have e : stj ns l k (set1 st rest l k src) (sel (pass3 (Txt.slice (Str.ofString "{*}" ++ wd k) (some 3) none) (Txt.slice (Str.ofString "{*}" ++ wd k) (some 2) none)) rt).length = (inM (xsOf ns) k).foldl (one l k) (set1 st rest l k src) := by
            rw [show (sel (pass3 (Txt.slice (Str.ofString "{*}" ++ wd k) (some 3) none) (Txt.slice (Str.ofString "{*}" ++ wd k) (some 2) none)) rt).length = (wd k :: (Xin (xsOf ns) k).map tagS).length from sel_.1]
            unfold stj inM
            rw [List.length_cons, Nat.add_sub_cancel, List.length_map, List.take_length]
          rw [e] at S'
          obtain ⟨q1, q2, q3, q4, q5, q6, q7, q8⟩ := mm
          exact ⟨rfl, wpAny_execs_nil (wpAny_execs_nil (hQ2 _ _ ⟨_, mu', h₀', gs', _, m', _, rfl, y', hb', TM'.tab, S'.unbad, inv', rfl, F', q1, q2, q3, q4, q5, q6, q7, q8⟩))⟩
end Mine
end
section
open PySem PySem.W PyProof.Rows PySem.Calls PySem.Builtin
set_option maxHeartbeats 8000000
namespace Mine
variable [Bs]
theorem countOut (xs : List Int) (j k : Nat) : (outM xs j).count k = xs.countP fun x => (srcI x == j) && (tgtI x == k) && !(kindI x == 7) && !(kindI x == 6) := by
  unfold outM Xout
  rw [List.count_eq_countP, List.countP_map, List.countP_filter, List.countP_filter]
  refine List.countP_congr fun x _ => ?_
  show ((tgtI x == k) && _ && ((srcI x == j) && _)) = true ↔ _
  cases tgtI x == k <;> cases srcI x == j <;> cases kindI x == 7 <;> cases kindI x == 6 <;> decide
theorem countIn (xs : List Int) (j k : Nat) : (inM xs k).count j = xs.countP fun x => (srcI x == j) && (tgtI x == k) && !(kindI x == 7) && !(kindI x == 6) := by
  unfold inM Xin
  rw [List.count_eq_countP, List.countP_map, List.countP_filter, List.countP_filter]
  refine List.countP_congr fun x _ => ?_
  show ((srcI x == j) && _ && ((tgtI x == k) && _)) = true ↔ _
  cases tgtI x == k <;> cases srcI x == j <;> cases kindI x == 7 <;> cases kindI x == 6 <;> decide
theorem brd (ns : List Int) : Brd (fun k => outM (xsOf ns) k) (fun k => inM (xsOf ns) k) 6 16 where
  lt k _ j hj := by obtain ⟨x, _, rfl⟩ := List.mem_map.mp hj; exact tgtI_lt x
  lt' k _ j hj := by obtain ⟨x, _, rfl⟩ := List.mem_map.mp hj; exact srcI_lt x
  cnt j k _ _ := (countOut _ j k).trans (countIn _ j k).symm
  len k _ := by
    show (inM (xsOf ns) k).length ≤ 16
    unfold inM Xin
    rw [List.length_map]
    exact Nat.le_trans (List.length_filter_le _ _) (Nat.le_trans (List.length_filter_le _ _) (xsOf_len ns))
theorem st0_eq (A : Nat → List Nat) : st0 A = stI A 6 := rfl
theorem mu_small {A : Nat → List Nat} {n w : Nat} {st : St} (h : mu n w st < 900) : st.heap.length ≤ mu n w st := Nat.le_add_right _ _
/- what settling needs, in one -/
noncomputable def InvB (ns : List Int) (st : St) : Prop := Inv (fun k => outM (xsOf ns) k) 6 st ∧ mu 6 16 st ≤ 102
theorem invB0 (ns : List Int) : InvB ns (st0 fun k => outM (xsOf ns) k) := by
  refine ⟨Inv.init _ 6, ?_⟩
  unfold mu
  have h1 : (st0 fun k => outM (xsOf ns) k).heap.length ≤ 6 := hs0_len _ 6
  have h2 := List.countP_le_length (p := fun k => ((st0 fun k => outM (xsOf ns) k).rounds k).isNone) (l := List.range 6)
  rw [List.length_range] at h2
  omega
theorem invB1 (ns : List Int) (st : St) (t : N3) (rest ys : List N3) (z : N3) (I : InvB ns st) (hz : st.heap = ys ++ [z]) (hp : hpop ltN ys z = (t, rest)) :
    InvB ns (turnS (fun k => inM (xsOf ns) k) st t rest) ∧ mu 6 16 (turnS (fun k => inM (xsOf ns) k) st t rest) < mu 6 16 st := by
  obtain ⟨a, b⟩ := I.1.turn (brd ns) hz hp
  exact ⟨⟨a, Nat.le_trans (Nat.le_of_lt b) I.2⟩, b⟩
theorem invB2 (ns : List Int) (st : St) (I : InvB ns st) : (∀ z ∈ st.heap, z.2.1 < 6 ∧ z.2.2 < 6) ∧ mu 6 16 st < 900 ∧ st.heap.length ≤ mu 6 16 st ∧ st.order.length < 1000 ∧ ∀ i, (st.fam i).length < 1000 := by
  have h := I.1.order_len
  exact ⟨I.1.b0, Nat.lt_of_le_of_lt I.2 (by decide), Nat.le_add_right _ _, by omega, fun i => by have := I.1.t4 i; omega⟩
end Mine
end
section
open PySem PySem.W PyProof.Rows PySem.Calls PySem.Builtin
set_option maxHeartbeats 8000000
namespace Mine
variable [Bs]
noncomputable abbrev qC : Str := Str.ofString "_law_context.<locals>.<lambda>"
noncomputable abbrev famN : Str := Str.ofString "families"
/- a lambda that hands out a cell -/
noncomputable def CellFn (h : Heap) (f : Addr) (v : Value) (body : FuncBody) (cod : Value → Prop) : Prop := ∃ fd c, h.get? f = some { cls := .type "function", data := .func fd } ∧ fd.body = body ∧ fd.closure = [(famN, c)] ∧ h.IsCell c (some v) ∧ h.CodeRec fd.code fd.qualname
noncomputable def fromN (n : Nat) (o : Option Addr) : Prop := ∀ d, o = some d → n ≤ d
structure LamOk (fd : FuncData) : Prop where
  body : ∃ p, fd.body = .expr (.Name famN p)
  co : fd.scope.isCoroutine = false
  gen : fd.scope.isGenerator = false
  kind : fd.scope.kind = .function
  cell : fd.scope.names.all (fun x => x.2 != .cell) = true
  free : fd.scope.names.lookup famN = some .free
  bind : bindArgs fd ⟨[], []⟩ = pure []
/- a context: all that its families hang on lies below it, its own names behind it -/
noncomputable def Ctx (h : Heap) (n c ol : Addr) : Prop := ∃ fdc rt fdr f fdf cl, n ≤ rt ∧ rt < c ∧ f < c ∧ cl < c ∧ n ≤ f ∧ n ≤ cl ∧ Fn h c fdc (fun y => if y = Str.ofString "parent_map" then some .none else if y = Str.ofString "root" then some (.ref rt) else none) ∧ (∀ o d, h.get? c = some o → o.dict = some d → c ≤ d) ∧
  Fn h rt fdr (fun y => if y = Str.ofString "iter" then some (.ref f) else none) ∧ (∀ o d, h.get? rt = some o → o.dict = some d → n ≤ d ∧ d < c) ∧
  h.get? f = some { cls := .type "function", data := .func fdf } ∧ LamOk fdf ∧ fdf.closure = [(famN, cl)] ∧ h.IsCell cl (some (.ref ol)) ∧ h.CodeRec fdf.code fdf.qualname
inductive CxP [Bs] (r : Result) (s' : Shared) (s : Shared) (ol : Addr) : Prop
  | mk (h' : _) (tk : _) (c : _) (e0 : r = .ok (.ret (.ref c))) (e1 : s' = { s with heap := h', toks := tk }) (e2 : Ext (At 73) s.heap h') (e3 : Tab h' 77 73 qC) (e4 : Ctx h' s.heap.objs.size c ol) : CxP r s' s ol
theorem context_spec {w : World} {mg mb : Str → Option Value} {A : Around} {s : Shared} {ol : Addr} (G : Gd w mg mb s.heap) (R : Rm A 3) (hs : 114 < s.heap.objs.size) (T : Tab s.heap 77 73 qC) :
    codeAny (model PG w) A (.call (.ref 78) ⟨[.ref ol], []⟩) (fun r s' => CxP r s' s ol) s := by
  refine call_cells_ret R.d (G.k 78 _ rfl) rfl G.lim (codeRec_of G.k rfl) rfl ?_ (fun h₁ tk F C => ?_)
  · intro x hx; rw [List.mem_singleton.mp hx]; exact .inr ⟨rfl, rfl⟩
  refine hide fun Q0 hQ0 => ?_
  have FL : Loc h₁ s.heap.objs.size [] := F.ns
  have ap := C.apart
  have C1 := C.above
  have CE : Ce h₁ (cellsFrom (s.heap.objs.size + 1) _ []) [(famN, .ref ol)] := fun n c e => by
    have q := C.cell n c e
    change h₁.IsCell c (if n = famN then some (.ref ol) else none) at q
    rw [look1] at q; exact q
  have E₁ : Ext Non s.heap h₁ := Ext.of F.keep _
  have G₁ : Gd w mg mb h₁ := G.ext E₁ fun _ q => q.elim
  clear F C
  have T₁ := T.non E₁ (by decide) (by decide)
  have hs₁ : 114 < h₁.objs.size := Nat.lt_trans hs FL.lt
  refine wpAny_execs_cons ?_
  refine wpAny_Assign_Name ?_
  refine Lambda_ ?_
  refine mkFn (s := { s with heap := h₁, toks := _ }) (c := 77) (P := 73) (q := qC) G₁ rfl T₁ hs₁ (cl := []) rfl (fun b e => nomatch e) ?_
  intro rt c₂ h₂ tk₂ ct₂ pm₂ hr hr' x₂ T₂ hc₂ rec₂ R₂
  have n73 : ∀ b, 114 < b → ¬ At 73 b := fun b hb z => by rw [show b = 73 from z] at hb; exact absurd hb (by decide)
  have rtL : s.heap.objs.size < rt := Nat.lt_of_lt_of_le FL.lt hr
  have FL₂ := FL.ext x₂ (n73 _ hs)
  have CE₂ := CE.ext x₂ fun n c e => n73 _ (Nat.lt_trans hs (C1 _ _ (mem_of_lookup e)))
  have ccL : ∀ {n c}, (cellsFrom (s.heap.objs.size + 1) _ []).lookup n = some c → s.heap.objs.size < c := fun e => C1 _ _ (mem_of_lookup e)
  refine Loc.storeZ FL₂ ?_
  intro h₃ FL₃ x₃ z₃
  have R₃ := x₃.get R₂ (Ne.symm (Nat.ne_of_lt rtL)) (.inr fun _ _ z => nomatch z)
  have CE₃ := CE₂.ext x₃ fun n c e q => absurd (ccL e) (by rw [show c = s.heap.objs.size from q]; exact Nat.lt_irrefl _)
  have e₃ : Ext (At 73) s.heap h₃ := ((E₁.mono fun _ q => q.elim).trans x₂).st x₃ (Nat.le_refl _)
  have gT : ∀ b, At 73 b → Hi b ∨ Tb b := fun b q => .inr (.inr (.inr q))
  have G₃ := G.ext e₃ gT
  have T₃ := T₂.ext x₃ (by decide) (by decide) fun b q => .inr ⟨by rw [show b = s.heap.objs.size from q]; exact hs, by rw [show b = s.heap.objs.size from q]; exact .ns FL₂⟩
  have hs₃ : 114 < h₃.objs.size := Nat.lt_trans hs FL₃.lt
  refine wpAny_execs_cons ?_
  refine plainObj_wpAny_Assign_Attribute ?_
  refine Lambda_ ?_
  refine mkFn (s := { s with heap := h₃, toks := _ }) (c := 77) (P := 73) (q := qC) G₃ rfl T₃ hs₃ rfl (fun b e => nomatch e) ?_
  intro f c₄ h₄ tk₄ ct₄ pm₄ hf hf' x₄ T₄ hc₄ rec₄ Fo₄
  have FL₄ := FL₃.ext x₄ (n73 _ hs)
  have R₄ := x₄.get R₃ (n73 _ (Nat.lt_trans hs rtL)) (.inr fun _ _ z => nomatch z)
  have CE₄ := CE₃.ext x₄ fun n c e => n73 _ (Nat.lt_trans hs (ccL e))
  have rt3 : rt < h₃.objs.size := Heap.lt_size R₃
  have rtf : rt < f := Nat.lt_of_lt_of_le rt3 hf
  have hs₄ : 114 < h₄.objs.size := Nat.lt_trans hs FL₄.lt
  refine Loc.name FL₄ rfl ?_
  refine wpAny_with_size ?_
  refine setFn (ns := []) (Fn.bare R₄) lk_fn_iter hs₄ Within.nil (by decide) ?_
  intro h₅ tk₅ X₅ Fn₅ x₅ hX₅ hD₅ sz₅
  have hX₅' : ∀ b, X₅ b → b = rt := fun b q => by
    rcases hX₅ b q with q | ⟨o, ho, hdd⟩
    · exact q
    · rw [show ({ s with heap := h₄, toks := tk₄ } : Shared).heap.get? rt = h₄.get? rt from rfl, R₄] at ho; cases ho; cases hdd
  have nL : ∀ b, rt ≤ b → b ≠ s.heap.objs.size := fun b hb q => absurd rtL (by rw [← q]; exact Nat.not_lt.mpr hb)
  have FL₅ := FL₄.ext x₅ fun q => nL rt (Nat.le_refl _) (hX₅' _ q).symm
  have Fo₅ := x₅.get Fo₄ (fun q => absurd rtf (by rw [hX₅' _ q]; exact Nat.lt_irrefl _)) (.inr fun _ _ z => nomatch z)
  have CE₅ := CE₄.ext x₅ fun n c e q => by
    have c1 := CE₂ n c e
    obtain ⟨o, ho, hd⟩ := CE₄ n c e
    rw [hX₅' _ q, R₄] at ho; cases ho; cases hd
  have rec₅ := codeExt rec₄ x₅ fun q => codeNC rec₄ (by rw [hX₅' _ q]; exact .fn (Fn.bare R₄))
  have rt114 : 114 < rt := Nat.lt_trans hs rtL
  have T₅ := T₄.ext x₅ (by decide) (by decide) fun b q => .inr ⟨by rw [hX₅' b q]; exact rt114, by rw [hX₅' b q]; exact .fn (Fn.bare R₄)⟩
  have e₅ : Ext (At 73) s.heap h₅ := (e₃.trans x₄).step x₅ fun a o e q => by
    have := Heap.lt_size e
    rw [hX₅' a q] at this
    exact absurd this (Nat.not_lt.mpr (Nat.le_of_lt rtL))
  have G₅ := G.ext e₅ gT
  have sz45 : h₄.objs.size ≤ h₅.objs.size := sz₅
  have hs₅ : 114 < h₅.objs.size := Nat.lt_of_lt_of_le hs₄ sz45
  have rtD₅ : ∀ o d, h₅.get? rt = some o → o.dict = some d → s.heap.objs.size ≤ d ∧ d < h₅.objs.size := fun o d a b => by
    refine ⟨?_, ?_⟩
    · rcases hD₅ o d a b with ⟨o₀, h₀, hdd⟩ | q
      · rw [show ({ s with heap := h₄, toks := tk₄ } : Shared).heap.get? rt = h₄.get? rt from rfl, R₄] at h₀; cases h₀; cases hdd
      · exact Nat.le_trans (Nat.le_of_lt FL₄.lt) q
    · obtain ⟨o', ho', _, _, y⟩ := Fn₅
      rw [a] at ho'; cases ho'
      rcases y with ⟨y, _⟩ | ⟨d', y, _, _, z⟩
      · rw [y] at b; cases b
      · rw [y] at b; cases b; exact z.lt
  refine wpAny_execs_cons ?_
  refine wpAny_Assign_Name ?_
  refine Lambda_ ?_
  refine mkFn (s := { s with heap := h₅, toks := _ }) (c := 77) (P := 73) (q := qC) G₅ rfl T₅ hs₅ (cl := []) rfl (fun b e => nomatch e) ?_
  intro c c₆ h₆ tk₆ ct₆ pm₆ hc hc' x₆ T₆ hc₆ rec₆ Cf₆
  have hcS : h₅.objs.size ≤ c := hc
  have FL₆ := FL₅.ext x₆ (n73 _ hs)
  have rt5 : rt < h₅.objs.size := let ⟨_, ho, _⟩ := Fn₅; Heap.lt_size ho
  have rtc : rt < c := Nat.lt_of_lt_of_le rt5 hcS
  have Fn₆ := Fn₅.ext x₆ (n73 _ rt114) fun o d a b => n73 _ (Nat.lt_of_lt_of_le hs (rtD₅ o d a b).1)
  have Fo₆ := x₆.get Fo₅ (n73 _ (Nat.lt_trans rt114 rtf)) (.inr fun _ _ z => nomatch z)
  have CE₆ := CE₅.ext x₆ fun n c e => n73 _ (Nat.lt_trans hs (ccL e))
  have f5 : f < c := Nat.lt_of_lt_of_le (Heap.lt_size Fo₅) hcS
  refine Loc.storeZ FL₆ ?_
  intro h₇ FL₇ x₇ z₇
  have cL : s.heap.objs.size < c := Nat.lt_trans rtL rtc
  have Lne : ∀ b, s.heap.objs.size < b → ¬ At s.heap.objs.size b := fun b hb q => absurd hb (by rw [show b = s.heap.objs.size from q]; exact Nat.lt_irrefl _)
  have rtD₆ : ∀ o d, h₆.get? rt = some o → o.dict = some d → s.heap.objs.size ≤ d ∧ d < c := fun o d a b => by
    obtain ⟨o₅, ho₅, hc₅, hd₅, _⟩ := id Fn₅
    obtain ⟨o', e', _, _, e3⟩ := x₆.data ho₅ (n73 _ rt114)
    rw [a] at e'; cases e'
    rw [e3] at b
    have := rtD₅ o₅ d ho₅ b
    exact ⟨this.1, Nat.lt_of_lt_of_le this.2 hcS⟩
  have rtDL : ∀ o d, h₆.get? rt = some o → o.dict = some d → s.heap.objs.size < d := fun o d a b => by
    refine Nat.lt_of_le_of_ne (rtD₆ o d a b).1 fun q => ?_
    obtain ⟨o', ho', _, hd', y⟩ := id Fn₅
    obtain ⟨o'', e', _, _, e3⟩ := x₆.data ho' (n73 _ rt114)
    rw [a] at e'; cases e'
    rw [e3] at b
    rcases hD₅ o' d ho' b with ⟨o₀, h₀, hdd⟩ | q'
    · rw [show ({ s with heap := h₄, toks := tk₄ } : Shared).heap.get? rt = h₄.get? rt from rfl, R₄] at h₀; cases h₀; cases hdd
    · have := FL₄.lt
      rw [← q] at q'
      exact absurd this (Nat.not_lt.mpr q')
  have Fn₇ := Fn₆.ext x₇ (Lne _ rtL) fun o d a b => Lne _ (rtDL o d a b)
  have Fo₇ := x₇.get Fo₆ (Lne _ (Nat.lt_trans rtL rtf)) (.inr fun _ _ z => nomatch z)
  have CE₇ := CE₆.ext x₇ fun n c e => Lne _ (ccL e)
  have C₇ := x₇.get Cf₆ (Lne _ cL) (.inr fun _ _ z => nomatch z)
  have rec₇ := codeExt (codeExt rec₅ x₆ (n73 _ hc₄)) x₇ fun q => by
    have r6 := codeExt rec₅ x₆ (n73 _ hc₄)
    exact codeNC r6 (by rw [show c₄ = s.heap.objs.size from q]; exact .ns FL₆)
  have T₇ := T₆.ext x₇ (by decide) (by decide) fun b q => .inr ⟨by rw [show b = s.heap.objs.size from q]; exact hs, by rw [show b = s.heap.objs.size from q]; exact .ns FL₆⟩
  have e₇ : Ext (At 73) s.heap h₇ := (e₅.trans x₆).st x₇ (Nat.le_refl _)
  have hs₇ : 114 < h₇.objs.size := Nat.lt_trans hs FL₇.lt
  have rtD₇ : ∀ o d, h₇.get? rt = some o → o.dict = some d → s.heap.objs.size ≤ d ∧ d < c := fun o d a b => by
    obtain ⟨o₆, ho₆, _⟩ := id Fn₆
    obtain ⟨o', e', _, _, e3⟩ := x₇.data ho₆ (Lne _ rtL)
    rw [a] at e'; cases e'
    rw [e3] at b
    exact rtD₆ o₆ d ho₆ b
  refine wpAny_execs_cons ?_
  refine plainObj_wpAny_Assign_Attribute ?_
  refine Loc.name FL₇ rfl ?_
  refine Loc.name FL₇ rfl ?_
  refine wpAny_with_size ?_
  refine setFn (ns := []) (Fn.bare C₇) lk_fn_root hs₇ Within.nil (by decide) ?_
  intro h₈ tk₈ X₈ Fc₈ x₈ hX₈ hD₈ sz₈
  have hX₈' : ∀ b, X₈ b → b = c := fun b q => by
    rcases hX₈ b q with q | ⟨o, ho, hdd⟩
    · exact q
    · have ho' : h₇.get? c = some o := ho
      rw [C₇] at ho'; cases ho'; cases hdd
  have nc : ∀ b, b < c → ¬ X₈ b := fun b hb q => absurd hb (by rw [hX₈' b q]; exact Nat.lt_irrefl _)
  have hcD₈ : ∀ o d, h₈.get? c = some o → o.dict = some d → c ≤ d := fun o d a b => by
    rcases hD₈ o d a b with ⟨o₀, h₀, hdd⟩ | q
    · have h₀' : h₇.get? c = some o₀ := h₀
      rw [C₇] at h₀'; cases h₀'; cases hdd
    · exact Nat.le_trans (Nat.le_of_lt (Heap.lt_size C₇)) q
  have FL₈ := FL₇.ext x₈ (nc _ cL)
  have Fn₈ := Fn₇.ext x₈ (nc _ rtc) fun o d a b => nc _ (rtD₇ o d a b).2
  have Fo₈ := x₈.get Fo₇ (nc _ f5) (.inr fun _ _ z => nomatch z)
  have rec₈ := codeExt rec₇ x₈ fun q => codeNC rec₇ (by rw [hX₈' _ q]; exact .fn (Fn.bare C₇))
  have rtD₈ : ∀ o d, h₈.get? rt = some o → o.dict = some d → s.heap.objs.size ≤ d ∧ d < c := fun o d a b => by
    obtain ⟨o₆, ho₆, _⟩ := id Fn₇
    obtain ⟨o', e', _, _, e3⟩ := x₈.data ho₆ (nc _ rtc)
    rw [a] at e'; cases e'
    rw [e3] at b
    exact rtD₇ o₆ d ho₆ b
  have hs₈ : 114 < h₈.objs.size := Nat.lt_of_lt_of_le hs₇ sz₈
  have clc : ∀ {n cl}, (cellsFrom (s.heap.objs.size + 1) _ []).lookup n = some cl → cl < c := fun {n cl} e => by
    obtain ⟨o, ho, _⟩ := CE _ _ e
    exact Nat.lt_trans (Nat.lt_of_lt_of_le (Heap.lt_size ho) hr) rtc
  have CE₈ := CE₇.ext x₈ fun n cl e => nc _ (clc e)
  have W1 : Within (fun y => if y = Str.ofString "root" then some (Value.ref rt) else none) [Str.ofString "root"] := Within.cons _ _ Within.nil
  refine wpAny_execs_cons ?_
  refine plainObj_wpAny_Assign_Attribute ?_
  refine wpAny_Constant_none ?_
  refine Loc.name FL₈ rfl ?_
  refine setFn (ns := [Str.ofString "root"]) Fc₈ lk_fn_pm hs₈ W1 (by decide) ?_
  intro h₉ tk₉ X₉ Fc₉ x₉ hX₉ hD₉
  have hX₉' : ∀ b, X₉ b → c ≤ b := fun b q => by
    rcases hX₉ b q with q | ⟨o, ho, hdd⟩
    · exact Nat.le_of_eq q.symm
    · exact hcD₈ o b ho hdd
  have nc9 : ∀ b, b < c → ¬ X₉ b := fun b hb q => absurd hb (Nat.not_lt.mpr (hX₉' b q))
  have FL₉ := FL₈.ext x₉ (nc9 _ cL)
  have Fn₉ := Fn₈.ext x₉ (nc9 _ rtc) fun o d a b => nc9 _ (rtD₈ o d a b).2
  have Fo₉ := x₉.get Fo₈ (nc9 _ f5) (.inr fun _ _ z => nomatch z)
  have CE₉ := CE₈.ext x₉ fun n cl e => nc9 _ (clc e)
  have rec₉ := codeExt rec₈ x₉ fun q => by
    obtain ⟨c', o, vs, t, ec, ho, _⟩ := rec₅
    cases ec
    exact absurd (Nat.lt_of_lt_of_le (Heap.lt_size ho) hcS) (Nat.not_lt.mpr (hX₉' _ q))
  have rtD₉ : ∀ o d, h₉.get? rt = some o → o.dict = some d → s.heap.objs.size ≤ d ∧ d < c := fun o d a b => by
    obtain ⟨o₆, ho₆, _⟩ := id Fn₈
    obtain ⟨o', e', _, _, e3⟩ := x₉.data ho₆ (nc9 _ rtc)
    rw [a] at e'; cases e'
    rw [e3] at b
    exact rtD₈ o₆ d ho₆ b
  have hcD₉ : ∀ o d, h₉.get? c = some o → o.dict = some d → c ≤ d := fun o d a b => by
    rcases hD₉ o d a b with ⟨o₀, h₀, hdd⟩ | q
    · exact hcD₈ o₀ d h₀ hdd
    · obtain ⟨o', ho', _⟩ := id Fc₈
      exact Nat.le_trans (Nat.le_of_lt (Heap.lt_size ho')) q
  have e₉ : Ext (At 73) s.heap h₉ := (e₇.step x₈ fun a o e q => absurd (Heap.lt_size e) (by rw [hX₈' a q]; exact Nat.not_lt.mpr (Nat.le_of_lt cL))).step x₉ fun a o e q => absurd (Heap.lt_size e) (Nat.not_lt.mpr (Nat.le_trans (Nat.le_of_lt cL) (hX₉' a q)))
  have c114 : 114 < c := Nat.lt_trans hs cL
  have T₈ := T₇.ext x₈ (by decide) (by decide) fun b q => .inr ⟨by rw [hX₈' b q]; exact c114, by rw [hX₈' b q]; exact .fn (Fn.bare C₇)⟩
  have T₉ := T₈.ext x₉ (by decide) (by decide) fun b q => .inr ⟨Nat.lt_of_lt_of_le c114 (hX₉' b q), by
    rcases hX₉ b q with q | ⟨o, ho, hdd⟩
    · rw [q]; exact .fn Fc₈
    · exact .fnd Fc₈ ho hdd⟩
  refine wpAny_execs_cons ?_
  refine wpAny_Return_some ?_
  refine Loc.name FL₉ rfl ?_
  have CEf := CE₉ famN _ rfl
  refine hQ0 _ _ ⟨h₉, _, c, rfl, rfl, e₉, T₉, _, rt, _, f, _, _, Nat.le_of_lt rtL, rtc, f5, clc (n := famN) rfl, Nat.le_of_lt (Nat.lt_trans rtL rtf), Nat.le_of_lt (ccL (n := famN) rfl), Fc₉, hcD₉, Fn₉, rtD₉, Fo₉, ⟨⟨_, rfl⟩, rfl, rfl, rfl, rfl, rfl, rfl⟩, rfl, CEf, rec₉⟩
end Mine
end
section
open PySem PySem.W PyProof.Rows PySem.Calls PySem.Builtin
set_option maxHeartbeats 8000000
namespace Mine
variable [Bs]
theorem lk_fn_getattr : typeLookup (.type "function") (Str.ofString "__getattr__") = pure none := by rw [typeLookup_type, builtinLookup_eq_fast]; kernel_rfl
section
variable {w : World} {A : Around} {E : Value → Shared → Prop} {s : Shared} {env : Env} {mg mb : Str → Option Value}
theorem getMethodFn {rt : Addr} {fd : FuncData} {m : Str → Option Value} {name : Str} {v : Value} {pl : Sem Bool} {Q : Value × List Value → Shared → Prop} (F : Fn s.heap rt fd m) (hB : typeLookup (.type "function") name = pure none) (hv : m name = some v) (hh : handedOut v = pure v)
    (h : ∀ tk, Q (v, []) { s with toks := tk }) : wpAny (model PG w) A (getMethod (.ref rt) name pl) Q E s := by
  obtain ⟨o, ho, hc, _⟩ := id F
  have hT : s.TypeIs (.ref rt) "function" := ⟨o, ho, hc⟩
  unfold getMethod
  refine wpAny_bind (wpAny_specialOf hT lk_fn_ga ?_)
  dsimp only
  rw [if_neg (by decide +kernel)]
  refine wpAny_bind (wpAny_specialOf hT lk_fn_getattr ?_)
  rw [if_neg (by exact Bool.false_ne_true)]
  refine wpAny_bind (wpAny_specialOf hT hB ?_)
  exact wpAny_bind (getFn F hB hv hh fun tk => wpAny_pure (h tk))
/- o.name() where o is a function object with a name of its own -/
theorem callFnAttr {o : Expr} {name : Str} {apos pos : Pos} {Q : Value → Shared → Prop}
    (hbase : attributeBase o name env (eval o env) = eval o env) (hline : (apos.endLine == pos.line) = true)
    (h : wpAny (model PG w) A (eval o env) (fun ov s₁ => ∃ (rt : Addr) (fd : FuncData) (m : Str → Option Value) (v : Value), ov = .ref rt ∧ Fn s₁.heap rt fd m ∧ typeLookup (.type "function") name = pure none ∧ m name = some v ∧ handedOut v = pure v ∧ ∀ tk, wpAny (model PG w) A (callWith pos v [] [] []) Q E { s₁ with toks := tk }) E s) :
    wpAny (model PG w) A (eval (.Call (.Attribute o name apos) [] [] pos) env) Q E s := by
  rw [arm_eval_Call, hbase]
  refine wpAny_bind (wpAny_mono h (fun ov s₁ h₁ => ?_) fun _ _ e => e)
  obtain ⟨rt, fd, m, v, rfl, F, hB, hv, hh, hc⟩ := h₁
  refine wpAny_bind (wpAny_standAt ?_)
  have hform : methodCallForm ((0 : Nat) + ([] : List Keyword).length) (backTo pos (starEach [] env)) (backToKw pos (keywordEach [] env)) = true := rfl
  have hpos : methodCallPos true o env apos pos = pure pos := by unfold methodCallPos; simp [hline]
  unfold methodCall
  rw [show methodCallForm (([] : List Expr).length + ([] : List Keyword).length) (backTo pos (starEach [] env)) (backToKw pos (keywordEach [] env)) = true from rfl]
  refine wpAny_bind (wpAny_holding (getMethodFn F hB hv hh fun tk => ?_))
  exact wpAny_bind (wpAny_of_eq hpos (hc tk))
end
theorem callLam {w : World} {A : Around} {s : Shared} {f cl : Addr} {fd : FuncData} {v : Value} (R : Rm A 1) (hlim : s.heap.NoLimit) (ho : s.heap.get? f = some { cls := .type "function", data := .func fd }) (ok : LamOk fd) (hcl : fd.closure = [(famN, cl)]) (hv : s.heap.IsCell cl (some v)) (hcd : s.heap.CodeRec fd.code fd.qualname) :
    codeAny (model PG w) A (.call (.ref f) ⟨[], []⟩) (fun r s' => ∃ h' tk, r = .ok (.ret v) ∧ s' = { s with heap := h', toks := tk } ∧ Ext Non s.heap h') s := by
  obtain ⟨p, hb⟩ := ok.body
  refine kla_callFunE R.d ho rfl ok.co ok.gen hb hcd ?_
  rw [ok.bind]
  refine wpAny_pure (wpAny_newFunctionEnv (fun x hx => by simpa using List.all_eq_true.mp ok.cell x hx) (by intro y hy; simp at hy) (fun h₁ hns hsb => ?_) ok.kind)
  have x₁ : Ext Non s.heap h₁ := Ext.of (fun b o e => hsb.extBut b o (Nat.ne_of_lt (Heap.lt_size e)) (Heap.get?_push_of_some _ e)) _
  refine ⟨limExt hlim x₁ id, kla_codeExpr ?_⟩
  refine freeName (c := cl) (cellExt hv x₁ id) ?_ ?_ ok.kind ok.free (by decide) (by decide)
  · exact ⟨h₁, _, rfl, rfl, x₁⟩
  · show (fd.closure).lookup famN = some cl
    rw [hcl]; rfl
end Mine
end
section
open PySem PySem.W PyProof.Rows PySem.Calls PySem.Builtin
set_option maxHeartbeats 8000000
namespace Mine
variable [Bs]
/- a dict with int keys, its slots left open -/
noncomputable def DW (w : World) (h : Heap) (d : Addr) (kvs : List (Int × Value)) : Prop := ∃ o es ep, h.get? d = some o ∧ o.cls = .type "dict" ∧ o.dict = none ∧ o.data = .dict es ep ∧ KeysOf (intKind PG w) es ∧ Pairs (intKind PG w) es.toList kvs ∧ (kvs.map (·.1)).Nodup
theorem DW.ext {X : Addr → Prop} {w : World} {h h' : Heap} {d : Addr} {kvs : List (Int × Value)} (x : DW w h d kvs) (e : Ext X h h') (n : ¬ X d) : DW w h' d kvs := by
  obtain ⟨o, es, ep, ho, r⟩ := x
  obtain ⟨sl, e', _⟩ := e d o ho n
  exact ⟨_, es, ep, e', r⟩
theorem DW.of {w : World} {h : Heap} {d : Addr} {kvs : List (Int × Value)} (x : h.DictOf (intKind PG w) d kvs) : DW w h d kvs := by
  obtain ⟨o, es, ep, ho, hx, hd, r⟩ := x
  exact ⟨o, es, ep, ho, hx.1, hx.2.1, hd, r⟩
theorem md1 (o : Obj) (f) : (o.mapDict f).cls = o.cls ∧ (o.mapDict f).dict = o.dict := by obtain ⟨c, d, dt, sl⟩ := o; cases dt <;> exact ⟨rfl, rfl⟩
theorem md2 (o : Obj) (f) : (o.mapDictKeys f).cls = o.cls ∧ (o.mapDictKeys f).dict = o.dict := by obtain ⟨c, d, dt, sl⟩ := o; cases dt <;> exact ⟨rfl, rfl⟩
section
variable {w : World} {A : Around} {E : Value → Shared → Prop} {s : Shared} {d : Addr} {kvs : List (Int × Value)}
theorem DW.typeIs (x : DW w s.heap d kvs) : s.TypeIs (.ref d) "dict" := let ⟨o, _, _, ho, hc, _⟩ := x; ⟨o, ho, hc⟩
theorem getD {k : Int} {t : Tok} {v : Value} {Q : Value → Shared → Prop} (x : DW w s.heap d kvs) (hv : valueAt kvs k = some v) (h : Q v { s with toks := s.toks + 1 }) : wpAny (model PG w) A (getItem (.ref d) (.int k t)) Q E s := by
  have hT := x.typeIs
  obtain ⟨o, es, ep, ho, _, _, hd, hk, hp, hn⟩ := x
  have hkey := intKind_is PG w k t
  unfold getItem
  try with_reducible refine wpAny_holding ?_
  refine wpAny_bind (wpAny_sequenceKey hT (by decide) ?_)
  refine wpAny_bind (wpAny_callSpecial?_slot (name := Str.ofString "__getitem__") hT slot_dict_getitem
    (wpAny_call_entry slot_dict_getitem hT entry_dict_getitem ?_ (args_dict_getitem _ _)))
  show wpAny _ _ (dictGet d (.int k t) >>= _) _ _ s
  refine wpAny_bind ?_
  unfold dictGet
  try with_reducible refine wpAny_holding ?_
  refine wpAny_bind ((intKind PG w).pyHash hkey (wpAny_bind (wpAny_dictFind_of (s := { s with toks := s.toks + 1 }) hkey ho hd hk ?_)))
  have hb : findBy (intKind PG w).is es k = some v := by
    unfold findBy
    rw [← Array.find?_toList]
    exact (hp.find k).trans hv
  rw [findBy_of_findIdx?] at hb
  cases hi : es.findIdx? fun e => (intKind PG w).is k e.key with
  | none => rw [hi] at hb; cases hb
  | some i =>
    rw [hi] at hb
    refine wpAny_bind (wpAny_dictEntries (s := { s with toks := s.toks + 1 }) ho hd (wpAny_pure ?_))
    have hb' : Option.map (fun x : DictEntry => x.val) es[i]? = some v := hb
    rw [hb']
    exact wpAny_pure ⟨v, rfl, wpAny_pure h⟩
theorem setD {k : Int} {t : Tok} {v : Value} {Q : Unit → Shared → Prop} (x : DW w s.heap d kvs) (hlen : kvs.length < 1000) (hQ : ∀ h', DW w h' d (stored kvs k v) → Ext (At d) s.heap h' → Q () { s with heap := h', toks := s.toks + 1 }) : wpAny (model PG w) A (setItem (.ref d) (.int k t) v) Q E s := by
  have hT := x.typeIs
  obtain ⟨o, es, ep, ho, hc, hdn, hd, hk, hp, hn⟩ := x
  have hkey := intKind_is PG w k t
  have hes : es.size ≤ sizeLine := by
    have e1 := hp.length
    rw [Array.length_toList] at e1
    rw [sizeLine_eq]; omega
  unfold setItem
  try with_reducible refine wpAny_holding ?_
  refine wpAny_bind (wpAny_sequenceKey hT (by decide) ?_)
  refine wpAny_bind (wpAny_callSpecial?_slot (name := Str.ofString "__setitem__") hT slot_dict_setitem
    (wpAny_call_entry slot_dict_setitem hT entry_dict_setitem ?_ (args_dict_setitem _ _ _)))
  show wpAny _ _ (Builtin.Dict.notOrdered "__setitem__" ⟨[.ref d, .int k t, v], []⟩ >>= _) _ _ s
  refine wpAny_bind (wpAny_notOrdered_dict hT ?_)
  show wpAny _ _ (dictSet d (.int k t) v >>= _) _ _ s
  have fin : ∀ h', DW w h' d (stored kvs k v) → Heap.SameBut d s.heap h' → Q () { s with heap := h', toks := s.toks + 1 } := fun h' a b => hQ h' a (Ext.sameBut b rfl)
  refine wpAny_bind ?_
  unfold dictSet
  try with_reducible refine wpAny_holding ?_
  refine wpAny_bind ((intKind PG w).pyHash hkey ?_)
  unfold dictSetHashed
  try with_reducible refine wpAny_holding ?_
  refine wpAny_bind (wpAny_dictFind_of (s := { s with toks := s.toks + 1 }) hkey ho hd hk ?_)
  have hidx : (es.findIdx? fun e => (intKind PG w).is k e.key) = kvs.findIdx? fun kv => decide (kv.1 = k) := by
    rw [← hp.findIdx k]; obtain ⟨l⟩ := es; simp
  cases hi : es.findIdx? fun e => (intKind PG w).is k e.key with
  | some i =>
    have hst := any_of_findIdx_some (hidx ▸ hi)
    refine wpAny_bind (wpAny_rule (wpAny_bind (wpAny_updateDict (s := { s with toks := s.toks + 1 }) ho hd (wpAny_point ?_))))
    refine wpAny_pure ⟨.none, rfl, wpAny_pure (fin _ ⟨_, _, ep, Heap.get?_update_self _ ho (Obj.isFreed_of_dict (Obj.data_mapDict hd _)), (md1 o _).1.trans hc, (md1 o _).2.trans hdn, Obj.data_mapDict hd _, hk.modify _ _, ?_, ?_⟩ (Heap.SameBut.update ..))⟩
    · rw [stored, if_pos hst]
      have hl : (es.toList.findIdx? fun e => (intKind PG w).is k e.key) = some i := by rw [← hi]; obtain ⟨l⟩ := es; simp
      have := hp.modify hn hl v
      obtain ⟨l⟩ := es
      simpa using this
    · rw [stored, if_pos hst, keys_map_store]; exact hn
  | none =>
    have hnot : k ∉ kvs.map (·.1) := not_mem_of_findIdx_none (hidx ▸ hi)
    have hany : ¬ (kvs.any fun kv => decide (kv.1 = k)) = true := fun q => by
      obtain ⟨kv, hkv, he⟩ := List.any_eq_true.mp q
      exact hnot (List.mem_map.mpr ⟨kv, hkv, of_decide_eq_true he⟩)
    refine wpAny_bind (wpAny_rule (wpAny_updateDictKeys (hz := hes) (s := { s with toks := s.toks + 1 }) ho hd ?_))
    refine wpAny_pure ⟨.none, rfl, wpAny_pure (fin _ ⟨_, _, ep + 1, Heap.get?_update_self _ ho (Obj.isFreed_of_dict (Obj.data_mapDictKeys hd _)), (md2 o _).1.trans hc, (md2 o _).2.trans hdn, Obj.data_mapDictKeys hd _, hk.push hkey _, ?_, ?_⟩ (Heap.SameBut.update ..))⟩
    · rw [stored, if_neg hany]
      have := hp.append hkey ((intKind PG w).hash k) v
      obtain ⟨l⟩ := es
      simpa using this
    · rw [stored, if_neg hany, List.map_append, List.nodup_append]
      refine ⟨hn, by simp, fun a ha b hb e => ?_⟩
      have hb' : b = k := by simpa using hb
      exact hnot (hb' ▸ e ▸ ha)
end
end Mine
end
section
open PySem PySem.W PyProof.Rows PySem.Calls PySem.Builtin
set_option maxHeartbeats 8000000
namespace Mine
variable [Bs]
section
variable {w : World} {A : Around} {E : Value → Shared → Prop} {s : Shared} {env : Env} {mg mb : Str → Option Value}
theorem assignAttr {o : Expr} {attr : Str} {pos : Pos} {v : Value} {Q : Unit → Shared → Prop} (h : wpAny (model PG w) A (eval o env) (fun ov s₁ => wpAny (model PG w) A (setAttr ov attr v) Q E s₁) E s) : wpAny (model PG w) A (assign (.Attribute o attr pos) env v) Q E s := by
  rw [assign_Attribute]
  exact wpAny_bind (wpAny_holding (wpAny_mono h (fun ov s₁ h₁ => wpAny_bind (wpAny_standAt (wpAny_bind (wpAny_holding (wpAny_mono h₁ (fun _ s₂ q => wpAny_release q) fun _ _ e => e))))) fun _ _ e => e))
end
theorem callRef0 {w : World} {A : Around} {E : Value → Shared → Prop} {s : Shared} {pos : Pos} {f : Addr} {o : Obj} {fd : FuncData} {Q : Value → Shared → Prop} (hdat : o.data = .func fd) (ho : s.heap.get? f = some o) (h : wpAny (model PG w) A (call (.ref f) []) Q E s) :
    wpAny (model PG w) A (callWith pos (.ref f) [] [] []) Q E s := callWith_function (o := o) (fd := fd) (PyProof.Rows.evalArgs_none ⟨⟨ho, hdat⟩, by simpa using h⟩)
/- the table that get_parent_map fills -/
noncomputable def rowT (a : Addr) (t : List (Int × Value)) (ks : List Nat) : List (Int × Value) := ks.foldl (fun t (k : Nat) => stored t (k : Int) (.ref a)) t
noncomputable def tabF (pl : List (Addr × List Nat)) : List (Int × Value) := pl.foldl (fun t p => rowT p.1 t p.2) []
theorem rowT_len (a : Addr) : ∀ (ks : List Nat) (t : List (Int × Value)), (rowT a t ks).length ≤ t.length + ks.length
  | [], t => Nat.le_refl _
  | k :: ks, t => by
    have h1 := rowT_len a ks (stored t (k : Int) (.ref a))
    have h2 : (stored t (k : Int) (.ref a)).length ≤ t.length + 1 := by
      unfold stored
      split
      · rw [List.length_map]; exact Nat.le_succ _
      · rw [List.length_append]; exact Nat.le_refl _
    show (rowT a (stored t (k : Int) (.ref a)) ks).length ≤ _
    rw [List.length_cons]
    omega
theorem tabF_len : ∀ (pl : List (Addr × List Nat)) (t : List (Int × Value)), (pl.foldl (fun t p => rowT p.1 t p.2) t).length ≤ t.length + (pl.map fun p => p.2.length).sum
  | [], t => Nat.le_refl _
  | p :: pl, t => by
    have h1 := tabF_len pl (rowT p.1 t p.2)
    have h2 := rowT_len p.1 p.2 t
    rw [List.foldl_cons, List.map_cons, List.sum_cons]
    omega
theorem tab_small {pl : List (Addr × List Nat)} {i j : Nat} {a : Addr} {ks : List Nat} (hi : pl[i]? = some (a, ks)) (hj : j < ks.length) (hs : (pl.map fun p => p.2.length).sum < 1000) : (rowT a (tabF (pl.take i)) (ks.take j)).length < 1000 := by
  have h1 := rowT_len a (ks.take j) (tabF (pl.take i))
  have h2 := tabF_len (pl.take i) []
  have e : pl = pl.take i ++ (a, ks) :: pl.drop (i + 1) := by
    obtain ⟨hl, he⟩ := List.getElem?_eq_some_iff.mp hi
    rw [← he, ← List.drop_eq_getElem_cons hl, List.take_append_drop]
  have h3 : (pl.map fun p => p.2.length).sum = ((pl.take i).map fun p => p.2.length).sum + (ks.length + ((pl.drop (i + 1)).map fun p => p.2.length).sum) := by
    conv => lhs; rw [e]
    rw [List.map_append, List.sum_append, List.map_cons, List.sum_cons]
  have h4 : (ks.take j).length ≤ j := List.length_take_le _ _
  have h5 : (tabF (pl.take i)).length ≤ 0 + ((pl.take i).map fun p => p.2.length).sum := h2
  omega
theorem tabF_succ {pl : List (Addr × List Nat)} {i : Nat} {a : Addr} {ks : List Nat} (hi : pl[i]? = some (a, ks)) : tabF (pl.take (i + 1)) = rowT a (tabF (pl.take i)) ks := by
  unfold tabF
  rw [List.take_succ, hi, List.foldl_append]
  rfl
theorem rowT_succ {a : Addr} {t : List (Int × Value)} {ks : List Nat} {j k : Nat} (hj : ks[j]? = some k) : rowT a t (ks.take (j + 1)) = stored (rowT a t (ks.take j)) (k : Int) (.ref a) := by
  unfold rowT
  rw [List.take_succ, hj, List.foldl_append]
  rfl
inductive PnP [Bs] (r : Result) (s' : Shared) (s : Shared) (c : Addr) (w : World) (pl : List (Addr × List Nat)) : Prop
  | mk (h' : _) (tk : _) (d : _) (e0 : r = .ok (.ret (.ref d))) (e1 : s' = { s with heap := h', toks := tk }) (e2 : Ext (fun b => c ≤ b ∧ NC s.heap b) s.heap h') (e3 : s.heap.objs.size ≤ d) (e4 : DW w h' d (tabF pl)) : PnP r s' s c w pl
inductive PnI [Bs] (s' : Shared) (s : Shared) (c : Addr) (w : World) (d : Addr) (pl : List (Addr × List Nat)) (i : Nat) : Prop
  | mk (h : _) (tk : _) (m : _) (e0 : s' = { s with heap := h, toks := tk }) (e1 : Ext (fun b => c ≤ b ∧ NC s.heap b) s.heap h) (e2 : DW w h d (tabF (pl.take i))) (e3 : Loc h s.heap.objs.size m) (e4 : m.lookup (Str.ofString "parent_map") = some (.ref d)) : PnI s' s c w d pl i
inductive PnJ [Bs] (s' : Shared) (s : Shared) (c : Addr) (d : Addr) (h₁ : Heap) (w : World) (a : Addr) (pl : List (Addr × List Nat)) (i : Nat) (ks : List Nat) (j : Nat) : Prop
  | mk (h : _) (tk : _) (m' : _) (e0 : s' = { s with heap := h, toks := tk }) (e1 : Ext (fun b => c ≤ b ∧ NC s.heap b) s.heap h) (e2 : Ext (fun b => b = s.heap.objs.size ∨ b = d) h₁ h) (e3 : DW w h d (rowT a (tabF (pl.take i)) (ks.take j))) (e4 : Loc h s.heap.objs.size m') (e5 : m'.lookup (Str.ofString "parent_map") = some (.ref d)) (e6 : m'.lookup (Str.ofString "p") = some (.ref a)) : PnJ s' s c d h₁ w a pl i ks j
theorem parent_spec {w : World} {mg mb : Str → Option Value} {A : Around} {s : Shared} {n c ol : Addr} {pl : List (Addr × List Nat)} (G : Gd w mg mb s.heap) (R : Rm A 4) (hs : 114 < s.heap.objs.size) (hn : 114 < n) (K : Ctx s.heap n c ol) (hol : Ls s.heap ol (pl.map fun p => .ref p.1)) (hoc : ol < c)
    (hf : ∀ p ∈ pl, p.1 < c ∧ p.1 ≠ ol ∧ LN s.heap p.1 p.2) (hsum : (pl.map fun p => p.2.length).sum < 1000) :
    codeAny (model PG w) A (.call (.ref 21) ⟨[.ref c], []⟩) (fun r s' => PnP r s' s c w pl) s := by
  obtain ⟨fdc, rt, fdr, f, fdf, cl, k1, k2, k3, k4, k5, k6, Fc, hcD, Fr, hrD, Ff, ok, hcl, hce, hrec⟩ := K
  refine call_plain_ret R.d (G.k 21 _ rfl) rfl G.lim (codeRec_of G.k rfl) rfl (locs rfl) (fun h₁ F => ?_)
  refine hide fun Q0 hQ0 => ?_
  have FL : Loc h₁ s.heap.objs.size [(Str.ofString "context", .ref c)] := F.ns
  have E₁ : Ext Non s.heap h₁ := Ext.of F.keep _
  clear F
  have hcs : c < s.heap.objs.size := let ⟨_, ho, _⟩ := Fc; Heap.lt_size ho
  have cL : s.heap.objs.size ≠ c := Ne.symm (Nat.ne_of_lt hcs)
  have Fc₁ := Fc.ext E₁ id fun _ _ _ _ => id
  refine wpAny_execs_cons ?_
  refine wpAny_Assign_Name ?_
  refine Attribute_Name_ ?_
  refine Loc.name FL rfl ?_
  refine getFn Fc₁ lk_fn_pm (by rfl) rfl ?_
  intro tk
  refine Loc.storeZ FL ?_
  intro h₂ F₂ x₂ z₂
  have n_ : ∀ b, c ≤ b → 114 < b := fun b hb => Nat.lt_of_lt_of_le (Nat.lt_of_lt_of_le hn (Nat.le_trans k1 (Nat.le_of_lt k2))) hb
  have E₂ : Ext Non s.heap h₂ := E₁.st x₂ (Nat.le_refl _)
  have Fc₂ := Fc₁.ext x₂ (fun q => cL q.symm) fun o d a b q => by
    obtain ⟨o', ho', _, _, y⟩ := id Fc₁
    rw [a] at ho'; cases ho'
    obtain ⟨o0, ho0, _, _, y0⟩ := id Fc
    obtain ⟨o1, e1, _, _, e3⟩ := E₁.data ho0 id
    rw [a] at e1; cases e1
    rw [e3] at b
    rcases y0 with ⟨y0, _⟩ | ⟨d', y0, _, _, z⟩
    · rw [y0] at b; cases b
    · rw [y0] at b; cases b
      exact absurd z.lt (by rw [show d = s.heap.objs.size from q]; exact Nat.lt_irrefl _)
  have x₃ : Ext Non h₂ (h₂.push { cls := .type "dict", data := .dict #[] }) := Ext.push _ _ _
  have D₃ : DW w (h₂.push { cls := .type "dict", data := .dict #[] }) h₂.objs.size [] := DW.of (Heap.DictOf.new h₂)
  have Fc₃ := Fc₂.ext x₃ id fun _ _ _ _ => id
  have cdS : ∀ o d, (h₂.push { cls := .type "dict", data := .dict #[] }).get? c = some o → o.dict = some d → c ≤ d ∧ d < s.heap.objs.size := fun o d a b => by
    obtain ⟨o0, ho0, _, _, y0⟩ := id Fc
    obtain ⟨o1, e1, _, _, e3⟩ := (E₂.non x₃).data ho0 id
    rw [a] at e1; cases e1
    rw [e3] at b
    refine ⟨hcD o0 d ho0 b, ?_⟩
    rcases y0 with ⟨y0, _⟩ | ⟨d', y0, _, _, z⟩
    · rw [y0] at b; cases b
    · rw [y0] at b; cases b; exact z.lt
  have hs₃ : 114 < (h₂.push { cls := .type "dict", data := .dict #[] }).objs.size := Nat.lt_trans hs (F₂.ext x₃ id).lt
  have W2 : Within (fun y => if y = Str.ofString "parent_map" then some Value.none else if y = Str.ofString "root" then some (Value.ref rt) else none) [Str.ofString "parent_map", Str.ofString "root"] := Within.cons _ _ (Within.cons _ _ Within.nil)
  have dS : s.heap.objs.size < h₂.objs.size := F₂.lt
  refine wpAny_execs_cons ?_
  refine wpAny_If ?_
  refine wpAny_isTrue_Compare1 ?_
  refine Loc.name F₂ lkE ?_
  refine wpAny_Constant_none ?_
  refine is_none_gen ?_
  refine wpAny_truthy_bool ?_
  rw [if_pos (show (Value.none == Value.none) = true from rfl)]
  refine wpAny_execs_cons ?_
  refine wpAny_Assign_two ?_
  refine wpAny_Dict_empty ?_
  refine assignAttr ?_
  refine Loc.name (F₂.ext (Ext.push Non _ _) id) (lkN lkE) ?_
  refine setFn (ns := [Str.ofString "parent_map", Str.ofString "root"]) Fc₃ lk_fn_pm hs₃ W2 (by decide) ?_
  intro h₄ tk₄ X₄ Fc₄ x₄ hX₄ hD₄
  have hX₄' : ∀ b, X₄ b → c ≤ b ∧ b < s.heap.objs.size := fun b q => by
    rcases hX₄ b q with q | ⟨o, ho, hdd⟩
    · rw [q]; exact ⟨Nat.le_refl _, hcs⟩
    · exact cdS o b ho hdd
  have n4 : ∀ b, s.heap.objs.size ≤ b → ¬ X₄ b := fun b hb q => absurd (hX₄' b q).2 (Nat.not_lt.mpr hb)
  have D₄ := D₃.ext x₄ (n4 _ (Nat.le_of_lt dS))
  have F₄ := (F₂.ext x₃ id).ext x₄ (n4 _ (Nat.le_refl _))
  have nLs : ∀ b, b < s.heap.objs.size → ¬ At s.heap.objs.size b := fun b hb q => absurd hb (by rw [show b = s.heap.objs.size from q]; exact Nat.lt_irrefl _)
  have fcS : f < s.heap.objs.size := Nat.lt_trans k3 hcs
  have rcS : rt < s.heap.objs.size := Nat.lt_trans k2 hcs
  have nc4 : ∀ b, X₄ b → NC s.heap b := fun b q => by
    rcases hX₄ b q with q | ⟨o, ho, hdd⟩
    · rw [q]; exact .fn Fc
    · obtain ⟨o0, ho0, _⟩ := id Fc
      obtain ⟨o1, e1, _, _, e3⟩ := (E₂.non x₃).data ho0 id
      have ho' : (h₂.push { cls := .type "dict", data := .dict #[] }).get? c = some o := ho
      rw [ho'] at e1; cases e1
      rw [e3] at hdd
      exact .fnd Fc ho0 hdd
  refine wpAny_assign_Name ?_
  refine Loc.storeZ F₄ ?_
  intro h₅ F₅ x₅ z₅
  have nX : ∀ b, b < c → ¬ X₄ b := fun b hb q => absurd (hX₄' b q).1 (Nat.not_le.mpr hb)
  have E₅ : Ext X₄ s.heap h₅ := (((E₂.non x₃).mono fun _ q => q.elim).trans x₄).st x₅ (Nat.le_refl _)
  have Ff₅ := E₅.get Ff (nX _ k3) (.inr fun _ _ z => nomatch z)
  have Fr₅ := Fr.ext E₅ (nX _ k2) fun o d a b => nX _ (hrD o d a b).2
  have hce₅ := cellExt hce E₅ (nX _ k4)
  have hrec₅ : h₅.CodeRec fdf.code fdf.qualname := by
    obtain ⟨c', o, vs, t, ec, ho, r⟩ := id hrec
    have q1 : s.heap.CodeRec (.ref c') fdf.qualname := ⟨c', o, vs, t, rfl, ho, r⟩
    rw [ec]
    exact codeExt q1 E₅ fun q => codeNC q1 (nc4 _ q)
  have D₅ := D₄.ext x₅ fun q => absurd dS (by rw [show h₂.objs.size = s.heap.objs.size from q]; exact Nat.lt_irrefl _)
  have G₅ : Gd w mg mb h₅ := G.ext E₅ fun b q => .inl (n_ b (hX₄' b q).1)
  have ltL : s.heap.objs.size < h₅.objs.size := F₅.lt
  have Fc₅ := Fc₄.ext x₅ (fun q => cL q.symm) fun o dd a b q => by
    rcases hD₄ o dd a b with ⟨o₀, h₀, hdd⟩ | q'
    · have := (cdS o₀ dd h₀ hdd).2
      rw [show dd = s.heap.objs.size from q] at this
      exact absurd this (Nat.lt_irrefl _)
    · rw [show dd = s.heap.objs.size from q] at q'
      have h3 : (h₂.push { cls := .type "dict", data := .dict #[] }).objs.size ≤ s.heap.objs.size := q'
      rw [Heap.size_push] at h3
      exact absurd dS (Nat.not_lt.mpr (Nat.le_trans (Nat.le_succ _) h3))
  have E₅c : Ext (fun b => c ≤ b ∧ NC s.heap b) s.heap h₅ := E₅.mono fun b q => ⟨(hX₄' b q).1, nc4 b q⟩
  have olc : ¬ (c ≤ ol ∧ NC s.heap ol) := fun q => absurd q.1 (Nat.not_le.mpr hoc)
  have dL : h₂.objs.size ≠ s.heap.objs.size := Ne.symm (Nat.ne_of_lt dS)
  have cL' : c ≤ s.heap.objs.size := Nat.le_of_lt hcs
  have cd : c ≤ h₂.objs.size := Nat.le_of_lt (Nat.lt_trans hcs dS)
  have fr : ∀ b, s.heap.objs.size ≤ b → c ≤ b ∧ NC s.heap b := fun b hb => ⟨Nat.le_trans cL' hb, .none (Heap.get?_none_of_le hb)⟩
  generalize hd0 : h₂.objs.size = d at *
  refine wpAny_execs_cons ?_
  refine forL ?_ ?_
  exact R.handled
  refine callFnAttr (by rfl) (by rfl) ?_
  refine Attribute_Name_ ?_
  refine Loc.name F₅ (lkN (lkN lkE)) ?_
  refine getFn Fc₅ lk_fn_root (by rfl) rfl ?_
  intro tk₆
  refine ⟨rt, _, _, .ref f, rfl, Fr₅, lk_fn_iter, rfl, rfl, fun tk₇ => ?_⟩
  refine callRef0 rfl Ff₅ ?_
  refine useSpec (callLam (s := { s with heap := h₅, toks := _ }) ((R.deeper _).le (by decide)) G₅.lim Ff₅ ok hcl hce₅ hrec₅) ?_
  rintro r s' ⟨h₆, tk₈, rfl, rfl, x₆⟩
  refine ⟨_, rfl, ?_⟩
  refine ⟨ol, pl.map fun p => .ref p.1, rfl, (hol.ext E₅c olc).ext x₆ id, ?_⟩
  intro I h₇ hI x₇ L₇ hI7
  have D₇ := (D₅.ext x₆ id).ext x₇ id
  have F₇ := (F₅.ext x₆ id).ext x₇ id
  have hI' : I = h₆.objs.size := hI
  have LI : s.heap.objs.size < I := by rw [hI']; exact (F₅.ext x₆ id).lt
  have dI : d < I := by
    obtain ⟨o, _, _, ho, _⟩ := D₅.ext x₆ id
    rw [hI']; exact Heap.lt_size ho
  have cI : c ≤ I := Nat.le_trans cL' (Nat.le_of_lt LI)
  have E₇c : Ext (fun b => c ≤ b ∧ NC s.heap b) s.heap h₇ := (E₅c.non x₆).non x₇
  have olL : ol ≠ s.heap.objs.size := Nat.ne_of_lt (Nat.lt_trans hoc hcs)
  have old : ol ≠ d := Nat.ne_of_lt (Nat.lt_of_lt_of_le hoc cd)
  refine ⟨fun i s' => PnI s' s c w d pl i, ?_, ?_, ?_, ?_⟩
  · exact ⟨h₇, _, _, rfl, E₇c, D₇, F₇, lkE⟩
  · rintro i _ h tk ⟨h₀, tk₀, m, rfl, e₀, D₀, F₀, m1⟩ _ _ x
    exact ⟨h, tk, m, rfl, e₀.up x (fun b q => by rw [show b = I from q]; exact fr I (Nat.le_of_lt LI)), D₀.ext x (Nat.ne_of_lt dI), F₀.ext x (Nat.ne_of_lt LI), m1⟩
  · rintro i v _ hiv ⟨h₀, tk₀, m, rfl, e₀, D₀, F₀, m1⟩
    refine hideB fun Q1 hQ1 => ?_
    obtain ⟨⟨a, ks⟩, hp, rfl⟩ : ∃ p, pl[i]? = some p ∧ Value.ref p.1 = v := by
      rw [List.getElem?_map] at hiv
      cases e : pl[i]? with
      | none => rw [e] at hiv; cases hiv
      | some p => rw [e] at hiv; exact ⟨p, rfl, Option.some.inj hiv⟩
    obtain ⟨ac, aol, hln⟩ := hf _ (List.mem_of_getElem? hp)
    have naL : ¬ At s.heap.objs.size a := Nat.ne_of_lt (Nat.lt_trans ac hcs)
    have nda : a ≠ d := Nat.ne_of_lt (Nat.lt_of_lt_of_le ac cd)
    refine wpAny_assign_Name ?_
    refine Loc.storeZ F₀ ?_
    intro h₁ F₁ x₁ z₁
    have e₁ := e₀.up x₁ (fun b q => by rw [show b = s.heap.objs.size from q]; exact fr _ (Nat.le_refl _))
    have D₁ := D₀.ext x₁ dL
    obtain ⟨vs, La, av⟩ := hln.ext e₁ fun q => absurd q.1 (Nat.not_le.mpr ac)
    refine wpAny_execs_cons ?_
    refine forL ?_ ?_
    exact R.handled
    refine Loc.name F₁ lkE ?_
    refine ⟨a, vs, rfl, La, ?_⟩
    intro J h₂ hJ x₂ L₂ hJ2
    have hJ' : J = h₁.objs.size := hJ
    have LJ : s.heap.objs.size < J := by rw [hJ']; exact F₁.lt
    have dJ : d < J := by
      obtain ⟨o, _, _, ho, _⟩ := D₁
      rw [hJ']; exact Heap.lt_size ho
    refine ⟨fun j s' => PnJ s' s c d h₁ w a pl i ks j, ?_, ?_, ?_, ?_⟩
    · exact ⟨h₂, _, _, rfl, e₁.non x₂, x₂.mono fun _ q => q.elim, D₁.ext x₂ id, F₁.ext x₂ id, lkN m1, lkE⟩
    · rintro j _ h tk ⟨h₀', tk', m', rfl, f₀, f₁, D', F', m1', m2'⟩ _ _ x
      exact ⟨h, tk, m', rfl, f₀.up x (fun b q => by rw [show b = J from q]; exact fr J (Nat.le_of_lt LJ)), f₁.st x (Nat.le_of_eq hJ'.symm), D'.ext x (Nat.ne_of_lt dJ), F'.ext x (Nat.ne_of_lt LJ), m1', m2'⟩
    · rintro j v _ hjv ⟨h₀', tk', m', rfl, f₀, f₁, D', F', m1', m2'⟩
      refine hideB fun Q2 hQ2 => ?_
      obtain ⟨k, hk, t, rfl⟩ := av.at' hjv
      have hjl : j < ks.length := (List.getElem?_eq_some_iff.mp hk).1
      have small := tab_small hp hjl hsum
      refine wpAny_assign_Name ?_
      refine Loc.storeZ F' ?_
      intro h₃ F₃ x₃ z₃
      refine wpAny_execs_cons ?_
      refine wpAny_Assign_Subscript ?_
      refine Loc.name F₃ (lkN m2') ?_
      refine Loc.name F₃ (lkN m1') ?_
      refine Loc.name F₃ lkE ?_
      refine setD (D'.ext x₃ dL) small ?_
      intro h₄' D₄' x₄'
      rw [← rowT_succ hk] at D₄'
      have x34 : Ext (fun b => b = s.heap.objs.size ∨ b = d) h₀' h₄' := (x₃.mono fun b q => .inl q).up x₄' fun b q => .inr q
      refine wpAny_execs_nil (hQ2 _ _ ⟨rfl, ⟨h₄', _, _, rfl, f₀.up x34 (fun b q => ?_), f₁.trans x34, D₄', F₃.ext x₄' (Ne.symm dL), lkN m1', lkN m2'⟩, x34.mono fun b q => ?_⟩)
      · rcases q with q | q
        · rw [q]; exact fr _ (Nat.le_refl _)
        · rw [q]; exact fr _ (Nat.le_of_lt dS)
      · rcases q with q | q
        · rw [q]; exact ⟨Nat.ne_of_lt LJ, Ne.symm naL⟩
        · rw [q]; exact ⟨Nat.ne_of_lt dJ, Ne.symm nda⟩
    · rintro _ ⟨h₀', tk', m', rfl, f₀, f₁, D', F', m1', m2'⟩
      rw [av.1, List.take_length, ← tabF_succ hp] at D'
      have f01 : Ext (fun b => b = s.heap.objs.size ∨ b = d) h₀ h₀' := (x₁.mono fun b q => .inl q).trans f₁
      refine wpAny_execs_nil (hQ1 _ _ ⟨rfl, ⟨h₀', _, _, rfl, f₀, D', F', m1'⟩, f01.mono fun b q => ?_⟩)
      rcases q with q | q
      · rw [q]; exact ⟨Nat.ne_of_lt LI, Ne.symm olL⟩
      · rw [q]; exact ⟨Nat.ne_of_lt dI, Ne.symm old⟩
  · rintro _ ⟨h₀, tk₀, m, rfl, e₀, D₀, F₀, m1⟩
    rw [List.length_map, List.take_length] at D₀
    refine wpAny_execs_nil ?_
    refine wpAny_execs_cons ?_
    refine wpAny_Return_some ?_
    refine Loc.name F₀ m1 ?_
    exact hQ0 _ _ ⟨h₀, _, d, rfl, rfl, e₀, Nat.le_of_lt dS, D₀⟩
end Mine
end
section
open PySem PySem.W PyProof.Rows PySem.Calls PySem.Builtin
set_option maxHeartbeats 8000000
namespace Mine
variable [Bs]
/- walking the keys of such a dict: its entries and their epoch, all else left open -/
noncomputable def DE (w : World) (h : Heap) (d : Addr) (kvs : List (Int × Value)) (ep : Nat) : Prop := ∃ o es, h.get? d = some o ∧ o.cls = .type "dict" ∧ o.data = .dict es ep ∧ Pairs (intKind PG w) es.toList kvs
theorem DE.at {w : World} {h h' : Heap} {d : Addr} {kvs : List (Int × Value)} {ep : Nat} (x : DE w h d kvs ep) (e : ∀ o, h.get? d = some o → h'.get? d = some o) : DE w h' d kvs ep := let ⟨o, es, ho, r⟩ := x; ⟨o, es, e _ ho, r⟩
theorem DW.de {w : World} {h : Heap} {d : Addr} {kvs : List (Int × Value)} (x : DW w h d kvs) : ∃ ep, DE w h d kvs ep := let ⟨o, es, ep, ho, hc, _, hd, _, hp, _⟩ := x; ⟨ep, o, es, ho, hc, hd, hp⟩
section
variable {w : World} {A : Around} {E : Value → Shared → Prop} {s : Shared} {d it : Addr} {kvs : List (Int × Value)} {ep i : Nat}
theorem DE.typeIs (x : DE w s.heap d kvs ep) : s.TypeIs (.ref d) "dict" := let ⟨o, _, ho, hc, _⟩ := x; ⟨o, ho, hc⟩
theorem DE.lt {h : Heap} (x : DE w h d kvs ep) : d < h.objs.size := let ⟨o, _, ho, _⟩ := x; Heap.lt_size ho
theorem DE.len {es : Array DictEntry} (hp : Pairs (intKind PG w) es.toList kvs) : es.size = kvs.length := by rw [← hp.length]; simp
theorem iterDE {Q : Value → Shared → Prop} (lo : (d == sysModules) = false) (x : DE w s.heap d kvs ep)
    (hQ : Q (.ref s.heap.objs.size) { s with heap := s.heap.push { cls := .type "dict_keyiterator", data := .fields #[.ref d, .int 0 0, .int kvs.length 0, .int ep 0] } }) : wpAny (model PG w) A (pyIter (.ref d)) Q E s := by
  have hT := x.typeIs
  obtain ⟨o, es, ho, _, hdat, hp⟩ := x
  refine wpAny_pyIter_slot hT PySem.F.slot_dict_iter (wpAny_call_entry PySem.F.slot_dict_iter hT PySem.F.entry_dict_iter ?_ (PySem.F.args_dict_iter_1 _))
  unfold Builtin.«dict.__iter__» Builtin.Dict.dictSlotNone
  refine wpAny_bind (wpAny_bind (wpAny_notOrdered_dict hT (wpAny_pure ?_)))
  show wpAny _ _ (Builtin.Dict.showsAll d >>= _) _ _ s
  unfold Builtin.Dict.showsAll
  rw [if_neg (by rw [lo]; exact Bool.false_ne_true)]
  refine wpAny_bind (wpAny_pure (wpAny_bind (wpAny_dictEntries ho hdat (wpAny_bind (wpAny_dictEpoch ho hdat ?_)))))
  refine wpAny_bind (wpAny_newObj_type (wpAny_pure ⟨_, rfl, "dict_keyiterator", _, ⟨_, Heap.get?_push_size _ rfl, rfl⟩, PySem.F.slot_dict_keyiterator_next.lookup, ?_⟩))
  rw [DE.len hp]
  exact hQ
/- what is alike in a pull that finds a key and in the last one -/
theorem pullDE {Q : Option Value → Shared → Prop} (hit : s.heap.IsKeyIter it d i kvs.length ep) (x : DE w s.heap d kvs ep)
    (item : ∀ k v, kvs[i]? = some (k, v) → ∀ key h', (intKind PG w).is k key = true → h'.IsKeyIter it d (i + 1) kvs.length ep → Heap.SameBut it s.heap h' → Q (some key) { s with heap := h' })
    (last : kvs[i]? = none → A.handled = none ∧ ∀ h', Heap.ExtBut it s.heap h' → Q none { s with heap := h' }) : wpAny (model PG w) A (pyNext (.ref it)) Q E s := by
  obtain ⟨o, ho, hc, hd⟩ := id hit
  obtain ⟨od, es, hod, _, hdd, hp⟩ := id x
  have hsz : es.size = kvs.length := DE.len hp
  have hown : Builtin.Dict_items.ownsTuple "dict_keyiterator" = false := by decide
  unfold pyNext
  refine wpAny_bind (wpAny_attempt (wpAny_callSpecial?_slot (name := Str.ofString "__next__") hit.typeIs PySem.F.slot_dict_keyiterator_next
    (wpAny_call_entry PySem.F.slot_dict_keyiterator_next hit.typeIs PySem.F.entry_dict_keyiterator_next ?_ (PySem.F.args_dict_keyiterator_next_1 _))))
  refine wpAny_bind (wpAny_pure (wpAny_bind (wpAny_bind ?_)))
  first | refine wpAny_bind (wpAny_typeNameOfWhole_keyiter hit.typeIs (wpAny_pure ?_)) | refine wpAny_bind (wpAny_typeNameOf_keyiter hit.typeIs (wpAny_pure ?_))
  refine wpAny_bind (wpAny_fieldsOf ho hd ?_)
  simp only [hown, Bool.false_eq_true, if_false]
  show wpAny _ _ (if (Value.ref d == Value.none) = true then _ else _) _ _ s
  rw [if_neg (show ¬ ((Value.ref d == Value.none) = true) from Bool.false_ne_true)]
  refine wpAny_bind (wpAny_pure (wpAny_bind (wpAny_dictEntries hod hdd ?_)))
  rw [if_neg (by rw [hsz]; simp)]
  refine wpAny_bind (wpAny_pure (wpAny_bind (wpAny_dictEpoch hod hdd ?_)))
  rw [if_neg (by simp)]
  refine wpAny_pure ?_
  by_cases hlt : i < es.size
  · have hlt2 : i < kvs.length := hsz ▸ hlt
    obtain ⟨⟨k, v⟩, hx⟩ : ∃ p, kvs[i]? = some p := ⟨_, List.getElem?_eq_getElem hlt2⟩
    have hkey : (intKind PG w).is k es[i].key = true := (hp.get? (e := es[i]) (by simp [hlt]) hx).1
    simp only [show ¬ ((i : Int) < 0) from by omega, if_false, Int.toNat_natCast, Array.getElem?_eq_getElem hlt]
    refine wpAny_bind ?_
    first | refine wpAny_bind (wpAny_typeNameOfWhole_keyiter hit.typeIs (wpAny_pure ?_)) | refine wpAny_bind (wpAny_typeNameOf_keyiter hit.typeIs (wpAny_pure ?_))
    refine wpAny_bind (wpAny_isOneOf_keyiter hit.typeIs ?_)
    show wpAny _ _ (setField (.ref it) 1 (rawInt ((i : Int) + 1)) >>= _) _ _ s
    refine wpAny_bind (wpAny_setField ho hd (by simp) ?_)
    have hit' : (s.heap.update it (Obj.mapFields (·.setIfInBounds 1 (rawInt ((i : Int) + 1))))).IsKeyIter it d (i + 1) kvs.length ep :=
      ⟨_, Heap.get?_update_self _ ho (Obj.isFreed_of_fields (Obj.data_mapFields hd _)), (Obj.cls_mapFields ..).trans hc, by rw [Obj.data_mapFields hd]; simp [rawInt]⟩
    refine wpAny_bind (wpAny_holding (wpAny_bind (wpAny_isOneOf_keyiter (s := { s with heap := s.heap.update it (Obj.mapFields (·.setIfInBounds 1 (rawInt ((i : Int) + 1)))) }) hit'.typeIs ?_)))
    show wpAny _ _ (pure es[i].key) _ _ _
    exact wpAny_pure (wpAny_pure ⟨_, rfl, wpAny_pure (item k v hx _ _ hkey hit' (Heap.SameBut.update ..))⟩)
  · have hge : es.size ≤ i := Nat.le_of_not_lt hlt
    obtain ⟨hh, hQ⟩ := last (List.getElem?_eq_none (hsz ▸ hge))
    simp only [show ¬ ((i : Int) < 0) from by omega, if_false, Int.toNat_natCast, Array.getElem?_eq_none hge]
    refine wpAny_bind ?_
    first | refine wpAny_bind (wpAny_typeNameOfWhole_keyiter hit.typeIs (wpAny_pure ?_)) | refine wpAny_bind (wpAny_typeNameOf_keyiter hit.typeIs (wpAny_pure ?_))
    show wpAny _ _ (setField (.ref it) 0 .none >>= _) _ _ s
    refine wpAny_bind (wpAny_setField ho hd (by simp) ?_)
    show wpAny _ _ (newExc (.type "StopIteration") [] >>= _) _ _ _
    refine wpAny_bind ?_
    simp only [newExc, newTuple]
    refine wpAny_bind (wpAny_newObj_type ?_ (by size_fits))
    refine wpAny_bind (m := firstArgMember _ _) (wpAny_of_eq (a := Value.none) (by first | rfl | (simp only [firstArgMember]; rfl)) ?_)
    refine wpAny_newObj_type ?_ (by size_fits)
    simp only [raiseNew]
    refine wpAny_bind (wpAny_handled ?_)
    rw [show A.in1.handled = none from hh]
    refine wpAny_bind (wpAny_pure (wpAny_throw ?_))
    refine wpAny_bind (wpAny_isInstance (T := "StopIteration") (b := true) ⟨_, Heap.get?_push_size _ rfl, rfl⟩ isSubtype_stop ?_)
    exact wpAny_pure (hQ _ (((Heap.SameBut.update ..).extBut.push _).push _))
theorem walksDE (hh : A.handled = none) (I : Addr) (hne : d ≠ I) : Walks PG w A I [I, d] [I] kvs.length (fun i v => ∃ k x, kvs[i]? = some (k, x) ∧ (intKind PG w).is k v = true) (fun i h => h.IsKeyIter I d i kvs.length ep ∧ DE w h d kvs ep) where
  sub := fun b hb => by simp at hb; simp [hb]
  frame := fun _ _ _ st hk => ⟨st.1.at fun o e => hk I (by simp) o e, st.2.at fun o e => hk d (by simp) o e⟩
  item := fun i s Q E hi st hQ => pullDE st.1 st.2 (fun k v hx key h' hkey hit' hs' => hQ key h' s.toks ⟨k, v, hx, hkey⟩ ⟨hit', st.2.at fun o e => hs'.extBut _ o hne e⟩ fun b o hb e => hs'.extBut b o (fun h => hb (by simp [h])) e)
    fun hx => absurd (List.getElem?_eq_none_iff.mp hx) (Nat.not_le.mpr hi)
  done := fun s Q E st hQ => pullDE st.1 st.2 (fun k v hx => absurd (List.getElem?_eq_some_iff.mp hx).1 (Nat.lt_irrefl _)) fun _ => ⟨hh, fun h' he' => hQ h' s.toks fun b o hb e => he' b o (fun h => hb (by simp [h])) e⟩
  self := fun _ _ _ _ st hQ => wpAny_pyIter_keyiter st.1 hQ
theorem srcDE (lo : (d == sysModules) = false) : KdlSrc PG w "dict" d d kvs.length (fun i v => ∃ k x, kvs[i]? = some (k, x) ∧ (intKind PG w).is k v = true) (fun h => DE w h d kvs ep) where
  type := fun _ x => x.typeIs
  there := fun _ x => ⟨x.lt, x.lt⟩
  keep := fun _ _ x hk => x.at fun o e => hk d (.inl rfl) o e
  notList := by decide
  notTuple := by decide
  hint := fun _ _ _ _ x hq => kdl_hint_dict x.typeIs hq
  iter := fun _ _ hh x => ⟨_, _, (fun _ _ hq => iterDE lo x hq), walksDE hh _ (Nat.ne_of_lt x.lt), ⟨⟨_, Heap.get?_push_size _ rfl, rfl, rfl⟩, x.at fun _ e => Heap.get?_push_of_some _ e⟩⟩
theorem intsOf : ∀ (vs : List Value) (ns : List Int), vs.length = ns.length → (∀ (i : Nat) (v : Value), vs[i]? = some v → ∃ (n : Int) (t : Tok), ns[i]? = some n ∧ v = Value.int n t) → IntsAre vs ns
  | [], [], _, _ => .nil
  | [], _ :: _, h, _ => by simp at h
  | _ :: _, [], h, _ => by simp at h
  | v :: vs, n :: ns, h, f => by
    obtain ⟨m, t, hm, rfl⟩ := f 0 v rfl
    have : n = m := by simpa using hm
    subst this
    exact .cons n t (intsOf vs ns (by simpa using h) fun i u hu => f (i + 1) u (by simpa using hu))
/- sorted(d): the keys in order, in a new list -/
theorem sortedDW {Q : Value → Shared → Prop} (hh : A.handled = none) (lo : (d == sysModules) = false) (x : DW w s.heap d kvs) (hlen : kvs.length < 60)
    (h : ∀ D h' tk vs ns, s.heap.objs.size ≤ D → Ls h' D vs → IntsAre vs ns → ns.Perm (kvs.map (·.1)) → ns.Pairwise (· ≤ ·) → Ext Non s.heap h' → Q (.ref D) { s with heap := h', toks := tk }) : wpAny (model PG w) A (call (.builtin "sorted") [.ref d]) Q E s := by
  obtain ⟨ep, x⟩ := x.de
  refine call_function_entry kind_sorted plain_sorted entry_sorted (args_sorted1 _) ?_
  unfold Builtin.«sorted»
  refine wpAny_bind (m := checkCount "sorted" 1 1 _) (wpAny_pure ?_)
  refine wpAny_bind (wpAny_with_size (kdu_collect (A := A.in1) (srcDE lo) hh x (by rw [sizeLine_eq]; omega) fun h₁ tk acc hk hacc hz => ?_))
  have hz' : s.heap.objs.size ≤ h₁.objs.size := hz
  have hl : acc.toList.length = kvs.length := by rw [Array.length_toList]; exact hacc.1
  have hI : IntsAre acc.toList (kvs.map (·.1)) := by
    refine intsOf _ _ (by rw [List.length_map]; exact hl) fun i v hv => ?_
    obtain ⟨k, x, hx, hk⟩ := hacc.2 i v (by rw [← Array.getElem?_toList]; exact hv)
    obtain ⟨t, rfl⟩ := Value.isInt_shape hk
    exact ⟨k, t, by rw [List.getElem?_map, hx]; rfl, rfl⟩
  refine wpAny_bind (wpAny_newList ?_ (by rw [hl, sizeLine_eq]; omega))
  have ho : (h₁.push (seqObj "list" acc.toList.toArray 0)).get? h₁.objs.size = some (seqObj "list" acc.toList.toArray 0) := Heap.get?_push_size _ rfl
  refine wpAny_bind (wpAny_holding (wpAny_call_entry slot_list_sort ⟨_, ho, rfl⟩ entry_list_sort (list_sort_tree (s := { s with heap := h₁.push (seqObj "list" acc.toList.toArray 0), toks := tk }) ho hI (by rw [hl]; omega) fun out ns a1 a2 a3 => ⟨_, rfl, ?_⟩) (args_list_sort _)))
  obtain ⟨e, he⟩ := sortedHeap_at (vs := acc.toList) (out := out) ho
  refine wpAny_pure ⟨_, rfl, h h₁.objs.size _ _ out.toList ns hz' ⟨e, by simpa using he⟩ a1 a2 a3 (Ext.of (fun b o eb => ?_) _)⟩
  have hb : b < h₁.objs.size := Heap.lt_size (hk b o eb)
  exact (sortedHeap_old (Nat.ne_of_lt hb) (by rw [size_push']; exact Nat.lt_succ_of_lt hb)).trans (Heap.get?_push_of_some _ (hk b o eb))
end
end Mine
end
section
open PySem PySem.W PyProof.Rows PySem.Calls PySem.Builtin
set_option maxHeartbeats 8000000
namespace Mine
variable [Bs]
theorem tests1 {w : World} {A : Around} {E : Value → Shared → Prop} {s : Shared} {c : Expr} {env : Env} {Q : Bool → Shared → Prop} (h : wpAny (model PG w) A (isTrue c env (eval c env)) Q E s) : wpAny (model PG w) A (tests [c] env) Q E s := by
  have e : tests [c] env = (do let ok ← isTrue c env (eval c env); pure ok) := by
    unfold tests
    simp [List.forIn_cons, List.forIn_nil]
  rw [e]
  exact h
theorem tests0 {w : World} {A : Around} {E : Value → Shared → Prop} {s : Shared} {env : Env} {Q : Bool → Shared → Prop} (h : Q true s) : wpAny (model PG w) A (tests [] env) Q E s := wpAny_pure h
inductive T5 [Bs] (s : Shared) (h₄ : Heap) (RR : Nat → List Value → Prop) (i : Nat) (ys : List Value) (v : Value) (s₅ : Shared) : Prop
  | mk (h₅ : Heap) (tk₅ : Nat) (e0 : s₅ = { s with heap := h₅, toks := tk₅ }) (e1 : Ext Non h₄ h₅) (e2 : RR (i + 1) (ys ++ [v])) : T5 s h₄ RR i ys v s₅
inductive T4 [Bs] (w : World) (A : Around) (elt : Expr) (scope : Scope) (cl : List (Str × Addr)) (C : Addr) (env : Env) (s : Shared) (h : Heap) (RR : Nat → List Value → Prop) (i : Nat) (ys : List Value) (ok : Bool) (s₄ : Shared) : Prop
  | mk (h₄ : Heap) (tk₄ : Nat) (e0 : s₄ = { s with heap := h₄, toks := tk₄ }) (e1 : Ext Non h h₄) (e2 : if ok = true then wpAny (model PG w) A (eval elt (compEnvC scope cl C env)) (fun v s₅ => T5 s h₄ RR i ys v s₅) NoE s₄ else RR (i + 1) ys) : T4 w A elt scope cl C env s h RR i ys ok s₄
theorem T4.at {w : World} {A : Around} {elt : Expr} {scope : Scope} {cl : List (Str × Addr)} {C : Addr} {env : Env} {s : Shared} {h : Heap} {RR : Nat → List Value → Prop} {i : Nat} {ys : List Value} {ok : Bool} {s₄ : Shared} (h₂ : Heap) (q : T4 w A elt scope cl C env s h RR i ys ok s₄) : T4 w A elt scope cl C env { s with heap := h₂ } h RR i ys ok s₄ := by
  obtain ⟨h₄, tk₄, a, b, c⟩ := q
  refine ⟨h₄, tk₄, a, b, ?_⟩
  cases ok with
  | false => exact c
  | true => exact wpAny_mono c (fun _ _ z => by obtain ⟨p, q, r, s, t⟩ := z; exact ⟨p, q, r, s, t⟩) fun _ _ z => z
/- a comprehension with conditions, over an iterator whose pulls change nothing but itself; what is in the list does not hang on the heap -/
theorem compOkT {w : World} {A : Around} {env : Env} {x : Str} {ifs : List Expr} {elt : Expr} {scope : Scope} {cl : List (Str × Addr)} {C D I : Addr} {Lat : Shared → Shared → Prop} {ps : List (Value → Prop)} {s₂ : Shared} {Fin : Shared → Prop} (RR : Nat → List Value → Prop)
    (hI : I < s₂.heap.objs.size) (hD : D = s₂.heap.objs.size) (hC : C = s₂.heap.objs.size + 1)
    (lat : ∀ s s' : Shared, Ext (fun b => b = C ∨ b = D) s.heap s'.heap → Lat s s')
    (h0 : RR 0 [])
    (step : ∀ i p y ys h tk m, ps[i]? = some p → p y → RR i ys → Ext (fun b => b = I) s₂.heap h → s₂.heap.objs.size + 1 < h.objs.size → h.Ns C m → m x = some y →
      wpAny (model PG w) A (tests ifs (compEnvC scope cl C env)) (fun ok s₄ => T4 w A elt scope cl C env s₂ h RR i ys ok s₄) NoE { s₂ with heap := h, toks := tk })
    (fin : ∀ ys h tk, Ext (fun b => b = I) s₂.heap h → Ls h D ys → RR ps.length ys → (∃ m, h.Ns C m) → Fin { s₂ with heap := h, toks := tk })
    (hlen : ps.length < 2 ^ 20) : ∃ J, CompOk w A env x ifs elt scope cl C D Lat (AdvL I) ps J s₂ Fin := by
  have nDI : D ≠ I := by rw [hD]; exact Ne.symm (Nat.ne_of_lt hI)
  have nCI : C ≠ I := by rw [hC]; exact Ne.symm (Nat.ne_of_lt (Nat.lt_succ_of_lt hI))
  have nDC : D ≠ C := by rw [hD, hC]; exact Nat.ne_of_lt (Nat.lt_succ_self _)
  have hid : ∀ {h h' : Heap} {Y : Addr → Prop}, Ext (fun b => b = I) s₂.heap h → Ext Y h h' → (∀ b, Y b → b = I ∨ b = C ∨ b = D) → Ext (fun b => b = I) s₂.heap h' := fun x y i => x.step y fun a o e z => by
    have := Heap.lt_size e
    rcases i a z with q | q | q
    · exact q
    · rw [q, hC] at this; exact absurd this (Nat.not_lt.mpr (Nat.le_succ _))
    · rw [q, hD] at this; exact absurd this (Nat.lt_irrefl _)
  refine ⟨fun i ys s => ∃ h tk, s = { s₂ with heap := h, toks := tk } ∧ Ext (fun b => b = I) s₂.heap h ∧ RR i ys, ?_, ?_, ?_, ?_⟩
  · rintro s s' ⟨h', tk, rfl, e⟩
    exact ⟨fun ys l => l.ext e nDI, fun m l => e.ns l nCI⟩
  · intro h tk e _ _
    exact ⟨⟨h, tk, rfl, e.mono fun _ q => q.elim, h0⟩, lat _ _ (e.mono fun _ q => q.elim)⟩
  · rintro i p y ys _ _ hp hy ⟨h, tk, rfl, e, hr⟩ ⟨h', tk', rfl, e'⟩ L3 _ h₃ tk₃ m nC mx e₃ LD
    have e3 : Ext (fun b => b = I) s₂.heap h₃ := hid (hid e e' fun b q => .inl q) e₃ fun b q => .inr (.inl q)
    have szC : s₂.heap.objs.size + 1 < h₃.objs.size := by rw [← hC]; exact nC.lt
    refine wpAny_mono (step i p y ys h₃ tk₃ m hp hy hr e3 szC nC mx) (fun ok s₄ q => ?_) fun _ _ q => q
    obtain ⟨h₄, tk₄, rfl, e₄, q⟩ := q
    have LD₄ := LD.ext e₄ id
    have nC₄ := e₄.ns nC id
    cases ok with
    | true =>
      rw [if_pos rfl] at q ⊢
      refine wpAny_mono q (fun v s₅ q => ?_) fun _ _ q => q
      obtain ⟨h₅, tk₅, rfl, e₅, hr'⟩ := q
      refine ⟨LD₄.ext e₅ id, ⟨m, e₅.ns nC₄ id⟩, fun h₆ LD₆ e₆ => ⟨⟨h₆, tk₅, rfl, hid ((e3.trans (e₄.mono fun _ q => q.elim)).trans (e₅.mono fun _ q => q.elim)) e₆ fun b q => .inr (.inr q), hr'⟩, lat _ _ ?_⟩⟩
      exact (((e₃.mono fun b q => .inl q).up e₄ fun _ q => q.elim).up e₅ fun _ q => q.elim).up e₆ fun b q => .inr q
    | false =>
      rw [if_neg Bool.false_ne_true] at q ⊢
      exact ⟨LD₄, ⟨m, nC₄⟩, ⟨h₄, tk₄, rfl, e3.trans (e₄.mono fun _ q => q.elim), q⟩, lat _ _ ((e₃.mono fun b q => .inl q).up e₄ fun _ q => q.elim)⟩
  · rintro ys _ _ ⟨h, tk, rfl, e, hr⟩ ⟨h', tk', rfl, e'⟩ L3 mC
    exact fin ys h' tk' (hid e e' fun b q => .inl q) L3 hr mC
section
variable {w : World} {A : Around} {E : Value → Shared → Prop} {s : Shared} {env : Env} {mg mb : Str → Option Value}
/- y = [elt for x in iter if ..], a list -/
inductive ActP [Bs] (v : Value) (s₁ : Shared) (env : Env) (m : List (Str × Value)) (RR : Nat → List Value → Prop) (x : Str) (w : World) (A : Around) (ifs : List Expr) (scope : Scope) (cl : List (Str × Addr)) (elt : Expr) (y : Str) (Q : Flow → Shared → Prop) : Prop
  | mk (l : Addr) (vs : List Value) (e0 : v = .ref l) (e1 : Ls s₁.heap l vs) (e2 : vs.length < 1000) (e3 : Loc s₁.heap env.locals m) (e4 : (∀ (C : Addr) i v ys h tk mm, vs[i]? = some v → RR i ys → Ext Non s₁.heap h → s₁.heap.objs.size ≤ C → h.Ns C mm → mm x = some v →         wpAny (model PG w) A (tests ifs (compEnvC scope cl C env)) (fun ok s₄ => T4 w A elt scope cl C env s₁ h RR i ys ok s₄) NoE { s₁ with heap := h, toks := tk })) (e5 : (∀ D h' tk us, s₁.heap.objs.size ≤ D → Loc h' env.locals ((y, .ref D) :: m) → Ext (At env.locals) s₁.heap h' → Ls h' D us → RR vs.length us → Q .next { s₁ with heap := h', toks := tk })) : ActP v s₁ env m RR x w A ifs scope cl elt y Q
theorem AssignCompT {elt iter : Expr} {x y : Str} {px py : Pos} {ifs : List Expr} {scope : Scope} {cl : List (Str × Addr)} {pos spos : Pos} {Q : Flow → Shared → Prop} {m : List (Str × Value)} (RR : Nat → List Value → Prop)
    (hsw : swapsWith (.ListComp elt [⟨.Name x px, iter, ifs, 0⟩] scope pos) (some (.Name y py)) spos.line env = pure true)
    (hclos : closureFor scope env = pure cl) (hcell : ∀ y ∈ scope.names, y.2 ≠ .cell) (hkind : scope.kind = .function) (hnames : ∀ y ∈ scope.names, y.2 = .local → scope.names.lookup y.1 = some .local) (hx : scope.names.lookup x = some .local)
    (hh : A.handled = none) (h0 : RR 0 [])
    (h : wpAny (model PG w) A (eval iter env) (fun v s₁ => ActP v s₁ env m RR x w A ifs scope cl elt y Q) E s)
    (hs : ∀ x, foldedSetIterable iter env x = pure x := by intro _; rfl)
    (hk : env.scope.kind = .function := by rfl) (hly : env.kindOf y = some .local := by rfl) :
    wpAny (model PG w) A (exec (.Assign [.Name y py] (.ListComp elt [⟨.Name x px, iter, ifs, 0⟩] scope pos) spos) env) Q E s := by
  refine AssignComp_ (l := m) hsw hclos hcell hkind hnames hx ?_ hs hk hly
  refine wpAny_mono h (fun v s₁ h => ?_) fun _ _ q => q
  obtain ⟨l, vs, rfl, hl, hlen, F, step, h⟩ := h
  refine wpAny_pyIter_list hl.isList ?_
  have x₂ : Ext Non s₁.heap (s₁.heap.push { cls := .type "list_iterator", data := .fields #[.ref l, .int 0 0] }) := Ext.push _ _ _
  have hit : (s₁.heap.push { cls := .type "list_iterator", data := .fields #[.ref l, .int 0 0] }).IsListIter s₁.heap.objs.size l 0 := ⟨_, Heap.get?_push_size _ rfl, rfl, rfl⟩
  have hsz : (s₁.heap.push { cls := .type "list_iterator", data := .fields #[.ref l, .int 0 0] }).objs.size = s₁.heap.objs.size + 1 := Heap.size_push ..
  generalize s₁.heap.push { cls := .type "list_iterator", data := .fields #[.ref l, .int 0 0] } = h₂ at x₂ hit hsz ⊢
  have F₂ := F.ext x₂ id
  have hl₂ := hl.ext x₂ id
  have ltL := F.lt
  have ltl := hl.lt
  refine ⟨_, _, _, listFeed (s := { s₁ with heap := h₂ }) hh hl₂ hit, by rw [List.length_map]; exact Nat.lt_trans hlen (by decide), fun s' Q E x q => wpAny_pyIter_listiter (itExt hit x id) q, let ⟨o, _, _, ho, _⟩ := F₂; ⟨o, ho⟩, fun C D hC hD hDC hDs hCs => ?_⟩
  have hDs' : D = s₁.heap.objs.size + 1 := by rw [hDs]; exact hsz
  have hCs' : C = s₁.heap.objs.size + 1 + 1 := by rw [hCs]; show h₂.objs.size + 1 = _; rw [hsz]
  have nLD : env.locals ≠ D := by rw [hDs']; exact Nat.ne_of_lt (Nat.lt_succ_of_lt ltL)
  have nLC : env.locals ≠ C := by rw [hCs']; exact Nat.ne_of_lt (Nat.lt_succ_of_lt (Nat.lt_succ_of_lt ltL))
  have nlD : l ≠ D := by rw [hDs']; exact Nat.ne_of_lt (Nat.lt_succ_of_lt ltl)
  have nlC : l ≠ C := by rw [hCs']; exact Nat.ne_of_lt (Nat.lt_succ_of_lt (Nat.lt_succ_of_lt ltl))
  have nID : s₁.heap.objs.size ≠ D := by rw [hDs']; exact Nat.ne_of_lt (Nat.lt_succ_self _)
  have nIC : s₁.heap.objs.size ≠ C := by rw [hCs']; exact Nat.ne_of_lt (Nat.lt_succ_of_lt (Nat.lt_succ_self _))
  have hh0 : ∀ {h : Heap}, Ext (fun b => b = s₁.heap.objs.size) h₂ h → Ext Non s₁.heap h := fun e => x₂.st e (Nat.le_refl _)
  refine compOkT (s₂ := { s₁ with heap := h₂ }) (I := s₁.heap.objs.size) RR (by show s₁.heap.objs.size < h₂.objs.size; rw [hsz]; exact Nat.lt_succ_self _) hDs hCs (fun s s' e => e.mono fun b q => ?_) h0 (fun i p v ys h tk mm hp hy hr e hsz' nC mx => ?_) (fun ys h9 tk e LD hr mC => ?_) (by rw [List.length_map]; exact Nat.lt_trans hlen (by decide))
  · rcases q with q | q <;> obtain rfl := q.symm
    · exact ⟨Ne.symm nIC, Ne.symm nlC⟩
    · exact ⟨Ne.symm nID, Ne.symm nlD⟩
  · obtain ⟨v', hv, rfl⟩ : ∃ v, vs[i]? = some v ∧ (fun z => z = v) = p := by
      rw [List.getElem?_map] at hp
      cases e : vs[i]? with
      | none => rw [e] at hp; cases hp
      | some v => rw [e] at hp; exact ⟨v, rfl, Option.some.inj hp⟩
    have hy' : v = v' := hy
    subst hy'
    exact wpAny_mono (step C i v ys h tk mm hv hr (hh0 e) (by rw [hCs']; exact Nat.le_succ_of_le (Nat.le_succ _)) nC mx) (fun _ _ q => q.at h₂) fun _ _ q => q
  · have e0 := hh0 e
    rw [List.length_map] at hr
    refine ⟨F.ext e0 id, fun h' F' e' => ?_⟩
    refine h D h' _ ys (by rw [hDs']; exact Nat.le_succ _) F' ?_ (LD.ext e' fun q => ?_) hr
    · refine (e0.mono fun _ q => q.elim).step e' fun a o ea q => ?_
      rcases q with q | q
      · exact q
      · exact absurd (Heap.lt_size ea) (by rw [q, hCs']; exact Nat.not_lt.mpr (Nat.le_succ_of_le (Nat.le_succ _)))
    · rcases q with q | q
      · exact nLD q.symm
      · exact hDC q
inductive CtP [Bs] (v : Value) (s₁ : Shared) (RR : Nat → List Value → Prop) (x : Str) (w : World) (A : Around) (ifs : List Expr) (scope : Scope) (cl : List (Str × Addr)) (env : Env) (elt : Expr) (Q : Value → Shared → Prop) : Prop
  | mk (l : Addr) (vs : List Value) (e0 : v = .ref l) (e1 : Ls s₁.heap l vs) (e2 : vs.length < 1000) (e3 : (∀ (C : Addr) i v ys h tk mm, vs[i]? = some v → RR i ys → Ext Non s₁.heap h → s₁.heap.objs.size ≤ C → h.Ns C mm → mm x = some v →         wpAny (model PG w) A (tests ifs (compEnvC scope cl C env)) (fun ok s₄ => T4 w A elt scope cl C env s₁ h RR i ys ok s₄) NoE { s₁ with heap := h, toks := tk })) (e4 : (∀ D h' tk us, s₁.heap.objs.size ≤ D → Ext Non s₁.heap h' → Ls h' D us → RR vs.length us → Q (.ref D) { s₁ with heap := h', toks := tk })) : CtP v s₁ RR x w A ifs scope cl env elt Q
theorem compT {elt iter : Expr} {x : Str} {px : Pos} {ifs : List Expr} {scope : Scope} {cl : List (Str × Addr)} {pos : Pos} {Q : Value → Shared → Prop} (RR : Nat → List Value → Prop)
    (hclos : closureFor scope env = pure cl) (hcell : ∀ y ∈ scope.names, y.2 ≠ .cell) (hkind : scope.kind = .function) (hnames : ∀ y ∈ scope.names, y.2 = .local → scope.names.lookup y.1 = some .local) (hx : scope.names.lookup x = some .local)
    (hh : A.handled = none) (h0 : RR 0 [])
    (h : wpAny (model PG w) A (eval iter env) (fun v s₁ => CtP v s₁ RR x w A ifs scope cl env elt Q) E s)
    (hs : ∀ x, foldedSetIterable iter env x = pure x := by intro _; rfl) :
    wpAny (model PG w) A (eval (.ListComp elt [⟨.Name x px, iter, ifs, 0⟩] scope pos) env) Q E s := by
  refine comp_ hclos hcell hkind hnames hx ?_ hs
  refine wpAny_mono h (fun v s₁ h => ?_) fun _ _ q => q
  obtain ⟨l, vs, rfl, hl, hlen, step, h⟩ := h
  refine wpAny_pyIter_list hl.isList ?_
  have x₂ : Ext Non s₁.heap (s₁.heap.push { cls := .type "list_iterator", data := .fields #[.ref l, .int 0 0] }) := Ext.push _ _ _
  have hit : (s₁.heap.push { cls := .type "list_iterator", data := .fields #[.ref l, .int 0 0] }).IsListIter s₁.heap.objs.size l 0 := ⟨_, Heap.get?_push_size _ rfl, rfl, rfl⟩
  have hsz : (s₁.heap.push { cls := .type "list_iterator", data := .fields #[.ref l, .int 0 0] }).objs.size = s₁.heap.objs.size + 1 := Heap.size_push ..
  generalize s₁.heap.push { cls := .type "list_iterator", data := .fields #[.ref l, .int 0 0] } = h₂ at x₂ hit hsz ⊢
  have hl₂ := hl.ext x₂ id
  have ltl := hl.lt
  refine ⟨_, _, _, listFeed (s := { s₁ with heap := h₂ }) hh hl₂ hit, by rw [List.length_map]; exact Nat.lt_trans hlen (by decide), fun s' Q E x q => wpAny_pyIter_listiter (itExt hit x id) q, fun C D hC hD hDC hDs hCs => ?_⟩
  have hDs' : D = s₁.heap.objs.size + 1 := by rw [hDs]; exact hsz
  have hCs' : C = s₁.heap.objs.size + 1 + 1 := by rw [hCs]; show h₂.objs.size + 1 = _; rw [hsz]
  have nlD : l ≠ D := by rw [hDs']; exact Nat.ne_of_lt (Nat.lt_succ_of_lt ltl)
  have nlC : l ≠ C := by rw [hCs']; exact Nat.ne_of_lt (Nat.lt_succ_of_lt (Nat.lt_succ_of_lt ltl))
  have nID : s₁.heap.objs.size ≠ D := by rw [hDs']; exact Nat.ne_of_lt (Nat.lt_succ_self _)
  have nIC : s₁.heap.objs.size ≠ C := by rw [hCs']; exact Nat.ne_of_lt (Nat.lt_succ_of_lt (Nat.lt_succ_self _))
  have hh0 : ∀ {h : Heap}, Ext (fun b => b = s₁.heap.objs.size) h₂ h → Ext Non s₁.heap h := fun e => x₂.st e (Nat.le_refl _)
  refine compOkT (s₂ := { s₁ with heap := h₂ }) (I := s₁.heap.objs.size) RR (by show s₁.heap.objs.size < h₂.objs.size; rw [hsz]; exact Nat.lt_succ_self _) hDs hCs (fun s s' e => e.mono fun b q => ?_) h0 (fun i p v ys h tk mm hp hy hr e hsz' nC mx => ?_) (fun ys h9 tk e LD hr mC => ?_) (by rw [List.length_map]; exact Nat.lt_trans hlen (by decide))
  · rcases q with q | q <;> obtain rfl := q.symm
    · exact ⟨Ne.symm nIC, Ne.symm nlC⟩
    · exact ⟨Ne.symm nID, Ne.symm nlD⟩
  · obtain ⟨v', hv, rfl⟩ : ∃ v, vs[i]? = some v ∧ (fun z => z = v) = p := by
      rw [List.getElem?_map] at hp
      cases e : vs[i]? with
      | none => rw [e] at hp; cases hp
      | some v => rw [e] at hp; exact ⟨v, rfl, Option.some.inj hp⟩
    have hy' : v = v' := hy
    subst hy'
    exact wpAny_mono (step C i v ys h tk mm hv hr (hh0 e) (by rw [hCs']; exact Nat.le_succ_of_le (Nat.le_succ _)) nC mx) (fun _ _ q => q.at h₂) fun _ _ q => q
  · have e0 := hh0 e
    rw [List.length_map] at hr
    intro h' hsb
    have e' : Ext (At C) h9 h' := Ext.sameBut hsb rfl
    exact h D h' _ ys (by rw [hDs']; exact Nat.le_succ _) (e0.st e' (by rw [hCs']; exact Nat.le_succ_of_le (Nat.le_succ _))) (LD.ext e' hDC) hr
end
theorem Ext.new {h h' h'' : Heap} {X : Addr → Prop} (x : Ext Non h h') (y : Ext X h' h'') (i : ∀ b, X b → h.objs.size ≤ b) : Ext Non h h'' := x.step y fun a o e q => absurd (Heap.lt_size e) (Nat.not_lt.mpr (i a q))
end Mine
end
section
open PySem PySem.W PyProof.Rows PySem.Calls PySem.Builtin
set_option maxHeartbeats 8000000
namespace Mine
variable [Bs]
noncomputable abbrev toldN : Str := Str.ofString "told"
/- who is fresh in a round -/
noncomputable def cndB (A : Nat → List Nat) (l k : Nat) : Bool := (told A l k).isNone && (if l % 2 = 1 then (A k).any (fun j => evS (told A l j)) else (A k).all (fun j => odS (told A l j)))
theorem told_cnd (A : Nat → List Nat) (l k : Nat) : told A (l + 1) k = if cndB A l k = true then some l else told A l k := by
  have e : cndB A l k = true ↔ (told A l k = none ∧ (if l % 2 = 1 then (A k).any (fun j => evS (told A l j)) else (A k).all (fun j => odS (told A l j))) = true) := by
    unfold cndB; rw [Bool.and_eq_true, Option.isNone_iff_eq_none]
  rw [told]
  by_cases q : told A l k = none ∧ (if l % 2 = 1 then (A k).any (fun j => evS (told A l j)) else (A k).all (fun j => odS (told A l j))) = true
  · rw [if_pos q, if_pos (e.mpr q)]
  · rw [if_neg q, if_neg fun z => q (e.mp z)]
noncomputable def unP (A : Nat → List Nat) (l j : Nat) : Bool := !(odS (told A l j))
noncomputable def loP (A : Nat → List Nat) (l j : Nat) : Bool := (told A l j).isSome
theorem un_nil (A : Nat → List Nat) (l : Nat) : ∀ xs : List Nat, (xs.filter (unP A l)).isEmpty = xs.all (fun j => odS (told A l j))
  | [] => rfl
  | x :: xs => by
    have ih := un_nil A l xs
    rw [List.filter_cons, List.all_cons]
    unfold unP at ih ⊢
    cases odS (told A l x) with
    | true => simpa using ih
    | false => rfl
theorem lo_nil (A : Nat → List Nat) (l : Nat) : ∀ xs : List Nat, (!((xs.filter (unP A l)).filter (loP A l)).isEmpty) = xs.any (fun j => evS (told A l j))
  | [] => rfl
  | x :: xs => by
    have ih := lo_nil A l xs
    rw [List.filter_cons, List.any_cons]
    have e : (unP A l x && loP A l x) = evS (told A l x) := by
      unfold unP loP
      cases told A l x with
      | none => rfl
      | some m =>
        show (!(m % 2 == 1) && true) = (m % 2 == 0)
        have h : m % 2 = 0 ∨ m % 2 = 1 := by omega
        rcases h with h | h <;> rw [h] <;> rfl
    rw [← e]
    cases h1 : unP A l x with
    | false =>
      rw [if_neg Bool.false_ne_true]
      simpa using ih
    | true =>
      rw [if_pos rfl, List.filter_cons]
      cases h2 : loP A l x with
      | false => rw [if_neg Bool.false_ne_true]; simpa using ih
      | true => rfl
theorem fold_upd {v : Option Nat} : ∀ (ks : List Nat) (f : Nat → Option Nat) (i : Nat), ks.foldl (fun f k => upd f k v) f i = if i ∈ ks then v else f i
  | [], f, i => by simp
  | k :: ks, f, i => by
    rw [List.foldl_cons, fold_upd ks]
    by_cases h : i ∈ ks
    · rw [if_pos h, if_pos (List.mem_cons_of_mem _ h)]
    · rw [if_neg h]
      by_cases q : i = k
      · subst q; rw [upd_at, if_pos (.head _)]
      · rw [upd_ne q, if_neg fun z => (List.mem_cons.mp z).elim q h]
noncomputable def frS (A : Nat → List Nat) (l : Nat) (i : Nat) : List Nat := (List.range i).filter (cndB A l)
theorem fr_mem {A : Nat → List Nat} {l i k : Nat} : k ∈ frS A l i ↔ k < i ∧ cndB A l k = true := by
  unfold frS; rw [List.mem_filter, List.mem_range]
theorem fr_succ (A : Nat → List Nat) (l i : Nat) : frS A l (i + 1) = if cndB A l i = true then frS A l i ++ [i] else frS A l i := by
  unfold frS
  rw [List.range_succ, List.filter_append, List.filter_cons, List.filter_nil]
  split
  · rfl
  · exact List.append_nil _
theorem fr_done (A : Nat → List Nat) (l : Nat) : (List.range 6).map ((frS A l 6).foldl (fun f k => upd f k (some l)) (told A l)) = (List.range 6).map (told A (l + 1)) := by
  refine List.map_congr_left fun k hk => ?_
  have hk' := List.mem_range.mp hk
  rw [fold_upd, told_cnd]
  by_cases h : cndB A l k = true
  · rw [if_pos (fr_mem.mpr ⟨hk', h⟩), if_pos h]
  · rw [if_neg (fun z => h (fr_mem.mp z).2), if_neg h]
theorem all2Snoc {α β : Type} {R : α → β → Prop} {xs : List α} {f : β → Bool} {ks : List β} {i : Nat} {k : β} {v : α} (a : All2 R xs ((ks.take i).filter f)) (hk : ks[i]? = some k) (r : R v k) (h : f k = true) : All2 R (xs ++ [v]) ((ks.take (i + 1)).filter f) := by
  rw [List.take_add_one, hk, List.filter_append]
  show All2 R (xs ++ [v]) (_ ++ ([k].filter f))
  rw [List.filter_cons, if_pos h, List.filter_nil]
  exact a.append (.cons r .nil)
theorem all2Skip {α β : Type} {R : α → β → Prop} {xs : List α} {f : β → Bool} {ks : List β} {i : Nat} {k : β} (a : All2 R xs ((ks.take i).filter f)) (hk : ks[i]? = some k) (h : f k = false) : All2 R xs ((ks.take (i + 1)).filter f) := by
  rw [List.take_add_one, hk, List.filter_append]
  show All2 R xs (_ ++ ([k].filter f))
  rw [List.filter_cons, if_neg (by rw [h]; exact Bool.false_ne_true), List.filter_nil, List.append_nil]
  exact a
inductive LvK [Bs] (s : Shared) (al T I : Addr) (AA : Nat → List Nat) (l : Nat) (s' : Shared) : Prop
  | mk (h : _) (tk : _) (m : _) (tv : _) (e0 : s' = { s with heap := h, toks := tk }) (e1 : Ext Non s.heap h) (e2 : h.IsCell (s.heap.objs.size + 1) (some (.ref T))) (e3 : Ls h T tv) (e4 : All2 OVN tv ((List.range 6).map (told AA l))) (e5 : Loc h s.heap.objs.size m) (e6 : m.lookup (Str.ofString "ahead") = some (.ref al)) (e7 : I < h.objs.size) : LvK s al T I AA l s'
inductive KK [Bs] (s : Shared) (al fr : Addr) (AA : Nat → List Nat) (h₃ : Heap) (l : Nat) (tl : Tok) (k : Nat) (s' : Shared) : Prop
  | mk (h : _) (tk : _) (m : _) (fv : _) (e0 : s' = { s with heap := h, toks := tk }) (e1 : Ext (fun b => b = s.heap.objs.size ∨ b = fr) h₃ h) (e2 : Ls h fr fv) (e3 : All2 IVN fv (frS AA l k)) (e4 : Loc h s.heap.objs.size m) (e5 : m.lookup (Str.ofString "ahead") = some (.ref al)) (e6 : m.lookup (Str.ofString "fresh") = some (.ref fr)) (e7 : m.lookup (Str.ofString "level") = some (.int (l : Nat) tl)) : KK s al fr AA h₃ l tl k s'
inductive JK [Bs] (s : Shared) (al T : Addr) (AA : Nat → List Nat) (h₀' : Heap) (l : Nat) (tl : Tok) (j : Nat) (s' : Shared) : Prop
  | mk (h : _) (tk : _) (m : _) (tv' : _) (e0 : s' = { s with heap := h, toks := tk }) (e1 : Ext (fun b => b = s.heap.objs.size ∨ b = T) h₀' h) (e2 : Ls h T tv') (e3 : All2 OVN tv' ((List.range 6).map (((frS AA l 6).take j).foldl (fun f k => upd f k (some l)) (told AA l)))) (e4 : Loc h s.heap.objs.size m) (e5 : m.lookup (Str.ofString "ahead") = some (.ref al)) (e6 : m.lookup (Str.ofString "level") = some (.int (l : Nat) tl)) : JK s al T AA h₀' l tl j s'
inductive LookP [Bs] (s : Shared) (AA : Nat → List Nat) (r : Result) (s' : Shared) : Prop
  | mk (h' : _) (tk : _) (D : _) (tv : _) (e0 : r = .ok (.ret (.ref D))) (e1 : s' = { s with heap := h', toks := tk }) (e2 : Ext Non s.heap h') (e3 : s.heap.objs.size ≤ D) (e4 : Ls h' D tv) (e5 : All2 OVN tv ((List.range 6).map (told AA 6))) : LookP s AA r s'
theorem looking_spec {w : World} {mg mb : Str → Option Value} {A : Around} {s : Shared} {al : Addr} {av : List Value} {AA : Nat → List Nat} (G : Gd w mg mb s.heap) (R : Rm A 3) (hs : 114 < s.heap.objs.size)
    (hA : Ls s.heap al av) (ha1 : 114 < al) (hav : All2 (fun v k => ∃ l, v = .ref l ∧ 114 < l ∧ LN s.heap l (AA k)) av (List.range 6)) (hlt : ∀ k, k < 6 → ∀ j ∈ AA k, j < 6) (hsz : ∀ k, k < 6 → (AA k).length < 1000) :
    codeAny (model PG w) A (.call (.ref 109) ⟨[.ref al], []⟩) (fun r s' => LookP s AA r s') s := by
  refine call_cells_ret R.d (G.k 109 _ rfl) rfl G.lim (codeRec_of G.k rfl) rfl ?_ (fun h₁ tk F C => ?_)
  · intro x hx; rw [List.mem_singleton.mp hx]; exact .inl rfl
  refine hide fun Q0 hQ0 => ?_
  have FL : Loc h₁ s.heap.objs.size [(Str.ofString "ahead", .ref al)] := by
    have q := F.ns
    change h₁.Ns s.heap.objs.size (fun n => if n = Str.ofString "ahead" then some (.ref al) else none) at q
    have e : (fun n => if n = Str.ofString "ahead" then some (Value.ref al) else none) = fun n => [(Str.ofString "ahead", Value.ref al)].lookup n := by funext n; exact look1
    rw [e] at q
    exact q
  have c₁ : h₁.IsCell (s.heap.objs.size + 1) none := C.cell toldN (s.heap.objs.size + 1) rfl
  have E₁ : Ext Non s.heap h₁ := Ext.of F.keep _
  have G₁ : Gd w mg mb h₁ := G.ext E₁ fun _ q => q.elim
  clear F C
  have avl : av.length = 6 := hav.1
  have u₁ : ∀ env, (A.deeper env).units < cLine := fun env => (R.deeper env).u
  have ltc : s.heap.objs.size + 1 < h₁.objs.size := let ⟨_, ho, _⟩ := c₁; Heap.lt_size ho
  have hAL : al < s.heap.objs.size := hA.lt
  have cL : s.heap.objs.size + 1 ≠ s.heap.objs.size := Nat.succ_ne_self _
  refine wpAny_execs_cons ?_
  refine wpAny_Assign_Name ?_
  refine compT (fun i ys => All2 OVN ys (List.replicate i none)) rfl (by decide) rfl (by decide) rfl R.handled .nil ?_
  refine Loc.name FL rfl ?_
  refine ⟨al, av, rfl, hA.ext E₁ id, by rw [avl]; decide, fun C i v ys h tk mm hv hr e hC nC mx => ?_, fun T h₂ tk₂ us hT x₂ LT ar => ?_⟩
  · refine tests0 ?_
    refine ⟨h, tk, rfl, Ext.refl _ _, ?_⟩
    rw [if_pos rfl]
    refine wpAny_Constant_none ?_
    refine ⟨h, tk, rfl, Ext.refl _ _, ?_⟩
    rw [List.replicate_succ']
    exact hr.append (.cons rfl .nil)
  rw [avl] at ar
  have hTc : s.heap.objs.size + 1 < T := Nat.lt_of_lt_of_le ltc hT
  have hTL : s.heap.objs.size < T := Nat.lt_of_succ_lt hTc
  refine wpAny_storeName_cell rfl rfl rfl (cellExt c₁ x₂ id) fun h₃ c₃ sb₃ => ?_
  have x₃ : Ext (At (s.heap.objs.size + 1)) h₂ h₃ := Ext.sameBut sb₃ rfl
  clear sb₃
  have e₃ : Ext Non s.heap h₃ := (E₁.non x₂).st x₃ (Nat.le_succ _)
  have FL₃ := (FL.ext x₂ id).ext x₃ (Ne.symm cL)
  have LT₃ := LT.ext x₃ (Ne.symm (Nat.ne_of_lt hTc))
  have G₃ : Gd w mg mb h₃ := G.ext e₃ fun _ q => q.elim
  refine wpAny_execs_cons ?_
  refine forR ?_ ?_
  exact R.handled
  refine range_ G₃ ?_
  refine len_ G₃ ?_
  refine Loc.name FL₃ rfl ?_
  refine ⟨al, av, rfl, hA.ext e₃ id, by rw [avl]; decide, fun t tk => ⟨6, t, by rw [avl], fun r h₄ tk₄ t₁ t₂ t₃ hr IR x₄ hr4 => ⟨r, 6, t₁, t₂, t₃, rfl, IR, (show 6 < 2 ^ 30 by decide), fun I h₅ hI x₅ hI5 => ?_⟩⟩⟩
  have hI4 : h₄.objs.size ≤ I := Nat.le_of_eq hI.symm
  have TI : T < I := Nat.lt_of_lt_of_le (LT₃.ext x₄ id).lt hI4
  have cI : s.heap.objs.size + 1 < I := Nat.lt_trans hTc TI
  have LI' : s.heap.objs.size < I := Nat.lt_trans hTL TI
  have x35 : Ext Non h₃ h₅ := x₄.non x₅
  refine ⟨fun l s' => LvK s al T I AA l s', ?_, ?_, ?_, ?_⟩
  · exact ⟨h₅, _, _, _, rfl, e₃.non x35, cellExt c₃ x35 id, LT₃.ext x35 id, ar, FL₃.ext x35 id, rfl, hI5⟩
  · rintro l _ h tk ⟨h₀, tk₀, m, tv, rfl, e₀, c₀, L₀, a₀, F₀, m1, hI0⟩ _ hsz x
    exact ⟨h, tk, m, tv, rfl, e₀.st x (Nat.le_of_lt LI'), cellExt c₀ x (Nat.ne_of_lt cI), L₀.ext x (Nat.ne_of_lt TI), a₀, F₀.ext x (Nat.ne_of_lt LI'), m1, Nat.lt_of_lt_of_le hI0 hsz⟩
  · rintro l tl _ hl ⟨h₀, tk₀, m, tv, rfl, e₀, c₀, L₀, a₀, F₀, m1, hI0⟩
    refine hideB fun Q1 hQ1 => ?_
    have nTL : T ≠ s.heap.objs.size := Ne.symm (Nat.ne_of_lt hTL)
    have Lge : ∀ b, b = s.heap.objs.size → s.heap.objs.size ≤ b := fun b q => Nat.le_of_eq q.symm
    have wI : ∀ b, b = s.heap.objs.size ∨ b = T → b ≠ I := fun b q => by
      rcases q with q | q
      · rw [q]; exact Nat.ne_of_lt LI'
      · rw [q]; exact Nat.ne_of_lt TI
    refine wpAny_assign_Name ?_
    refine Loc.storeZ F₀ ?_
    intro h₁ F₁ x₁ z₁
    refine wpAny_execs_cons ?_
    refine wpAny_Assign_Name ?_
    refine List_ ?_
    refine args_nil ?_
    refine newL (by decide) ?_
    intro fr h₂ hfr Lfr x₂
    refine Loc.storeZ (F₁.ext x₂ id) ?_
    intro h₃ F₃ x₃ z₃
    have hfr1 : fr = h₁.objs.size := hfr
    have Lfr' : s.heap.objs.size < fr := by rw [hfr1]; exact F₁.lt
    have Tfr : T < fr := by rw [hfr1]; exact (L₀.ext x₁ nTL).lt
    have Ifr : I < fr := by rw [hfr1]; exact Nat.lt_of_lt_of_le hI0 z₁
    have nfL : fr ≠ s.heap.objs.size := Ne.symm (Nat.ne_of_lt Lfr')
    have x03 : Ext (At s.heap.objs.size) h₀ h₃ := (x₁.up x₂ fun _ q => q.elim).trans x₃
    have e₃ : Ext Non s.heap h₃ := e₀.st x03 (Nat.le_refl _)
    have G₃ : Gd w mg mb h₃ := G.ext e₃ fun _ q => q.elim
    have c₃ := cellExt c₀ x03 cL
    have L₃ := L₀.ext x03 nTL
    have Lfr₃ := Lfr.ext x₃ nfL
    clear x₁ x₂ x₃ F₁ Lfr
    refine wpAny_execs_cons ?_
    refine forR ?_ ?_
    exact R.handled
    refine range_ G₃ ?_
    refine len_ G₃ ?_
    refine Loc.name F₃ (lkN (lkN m1)) ?_
    refine ⟨al, av, rfl, hA.ext e₃ id, by rw [avl]; decide, fun t tk => ⟨6, t, by rw [avl], fun r h₄ tk₄ t₁ t₂ t₃ hr IR x₄ hr4 => ⟨r, 6, t₁, t₂, t₃, rfl, IR, (show 6 < 2 ^ 30 by decide), fun J h₅ hJ x₅ hJ5 => ?_⟩⟩⟩
    have hJ4 : h₄.objs.size ≤ J := Nat.le_of_eq hJ.symm
    have frJ : fr < J := Nat.lt_of_lt_of_le (Lfr₃.ext x₄ id).lt hJ4
    have x35 : Ext Non h₃ h₅ := x₄.non x₅
    refine ⟨fun k s' => KK s al fr AA h₃ l tl k s', ?_, ?_, ?_, ?_⟩
    · exact ⟨h₅, _, _, [], rfl, x35.mono fun _ q => q.elim, Lfr₃.ext x35 id, .nil, F₃.ext x35 id, lkN (lkN m1), lkE, lkN lkE⟩
    · rintro k _ h tk ⟨h₀', tk₀', m', fv, rfl, f₀, Lf, af, F', n1, n2, n3⟩ _ _ x
      exact ⟨h, tk, m', fv, rfl, f₀.st x (Nat.le_trans (Nat.le_of_lt (by rw [show r = h₃.objs.size from hr] at hr4; exact hr4)) hJ4), Lf.ext x (Nat.ne_of_lt frJ), af, F'.ext x (Nat.ne_of_lt (Nat.lt_trans Lfr' frJ)), n1, n2, n3⟩
    · rintro k tk' _ hk ⟨h₀', tk₀', m', fv, rfl, f₀, Lf, af, F', n1, n2, n3⟩
      refine hideB fun Q2 hQ2 => ?_
      obtain ⟨vl, hvl, lk, rfl, hl1, hLN⟩ := hav.at (List.getElem?_range hk)
      have hv' : av[((k : Nat) : Int).toNat]? = some (.ref lk) := by rw [Int.toNat_natCast]; exact hvl
      have e' : Ext Non s.heap h₀' := e₃.new f₀ fun b q => by
        rcases q with q | q
        · exact Lge b q
        · rw [q]; exact Nat.le_of_lt Lfr'
      have c' := cellExt c₃ f₀ fun q => by
        rcases q with q | q
        · exact cL q
        · exact absurd q (Nat.ne_of_lt (Nat.lt_trans hTc Tfr))
      have L' := L₃.ext f₀ fun q => by
        rcases q with q | q
        · exact nTL q
        · exact absurd q (Nat.ne_of_lt Tfr)
      have fvl : fv.length < 2 ^ 22 := by
        rw [af.1]
        exact Nat.lt_of_le_of_lt (List.length_filter_le _ _) (by rw [List.length_range]; exact Nat.lt_trans hk (by decide))
      refine wpAny_assign_Name ?_
      refine Loc.storeZ F' ?_
      intro h₆ F₆ x₆ z₆
      have e₆ : Ext Non s.heap h₆ := e'.st x₆ (Nat.le_refl _)
      have c₆ := cellExt c' x₆ cL
      have L₆ := L'.ext x₆ nTL
      have Lf₆ := Lf.ext x₆ nfL
      obtain ⟨vs, LK, aK⟩ := hLN.ext e₆ id
      obtain ⟨uk, huk, ouk⟩ := atR a₀ hk
      refine wpAny_execs_cons ?_
      refine AssignCompT (m := (Str.ofString "k", .int (k : Nat) tk') :: m') (fun i ys => All2 IVN ys (((AA k).take i).filter (unP AA l))) (by rfl) rfl (by decide) rfl (by decide) rfl R.handled .nil ?_
      refine Subscript_ ?_
      refine Loc.name F₆ (lkN n1) ?_
      refine Loc.name F₆ lkE ?_
      refine item (hA.ext e₆ id) (Int.natCast_nonneg k) (k63 hk) hv' ?_
      refine ⟨lk, vs, rfl, LK, by rw [aK.1]; exact hsz k hk, F₆, fun C i v ys h tk mm hv hr e hC nC mx => ?_, fun D h₇ tk₇ us hD F₇ x₇ LD ar => ?_⟩
      · obtain ⟨j, hj, t, rfl⟩ := aK.at' hv
        have hj6 := hlt k hk j (List.mem_of_getElem? hj)
        obtain ⟨u, hu, ou⟩ := atR a₀ hj6
        refine tests1 ?_
        refine wpAny_isTrue_BoolOp ?_
        refine wpAny_allTrue_Or_cons ?_
        refine wpAny_isTrue_Compare1 ?_
        refine Subscript_ ?_
        refine cellName (cellExt c₆ e id) ?_
        refine nsName nC mx ?_
        refine item (L₆.ext e id) (Int.natCast_nonneg j) (k63 hj6) hu ?_
        refine wpAny_Constant_none ?_
        refine is_none_gen ?_
        refine wpAny_truthy_bool ?_
        cases hT : told AA l j with
        | none =>
          rw [hT] at ou
          have ou' : u = .none := ou
          subst ou'
          rw [if_pos (by show (Value.none == Value.none) = true; rfl)]
          refine ⟨h, _, rfl, Ext.refl _ _, ?_⟩
          rw [if_pos rfl]
          refine nsName nC mx ?_
          exact ⟨h, _, rfl, Ext.refl _ _, all2Snoc hr hj ⟨t, rfl⟩ (by unfold unP; rw [hT]; rfl)⟩
        | some m₂ =>
          rw [hT] at ou
          obtain ⟨t', rfl⟩ := ou
          rw [if_neg (by show ¬ ((Value.int (m₂ : Nat) t' == Value.none) = true); exact Bool.false_ne_true)]
          refine wpAny_allTrue_Or_cons ?_
          refine wpAny_isTrue_Compare1 ?_
          refine wpAny_BinOp ?_
          refine Subscript_ ?_
          refine cellName (cellExt c₆ e id) ?_
          refine nsName nC mx ?_
          refine item (L₆.ext e id) (Int.natCast_nonneg j) (k63 hj6) hu ?_
          refine wpAny_Constant_int ?_
          refine mod_int' (by decide) ?_
          refine wpAny_Constant_int ?_
          refine P.eq_int ?_
          refine wpAny_truthy_bool ?_
          rw [(fmod2 m₂).2]
          by_cases hm : m₂ % 2 = 0
          · rw [if_pos (decide_eq_true hm)]
            refine ⟨h, _, rfl, Ext.refl _ _, ?_⟩
            rw [if_pos rfl]
            refine nsName nC mx ?_
            exact ⟨h, _, rfl, Ext.refl _ _, all2Snoc hr hj ⟨t, rfl⟩ (by unfold unP; rw [hT]; show (!(m₂ % 2 == 1)) = true; rw [hm]; rfl)⟩
          · rw [if_neg (fun q => hm (of_decide_eq_true q))]
            refine wpAny_allTrue_Or_nil ?_
            refine ⟨h, _, rfl, Ext.refl _ _, ?_⟩
            rw [if_neg Bool.false_ne_true]
            exact all2Skip hr hj (by unfold unP; rw [hT]; show (!(m₂ % 2 == 1)) = false; rw [show m₂ % 2 = 1 by omega]; rfl)
      rw [aK.1, List.take_length] at ar
      have e₇ : Ext Non s.heap h₇ := e₆.st x₇ (Nat.le_refl _)
      have c₇ := cellExt c₆ x₇ cL
      have L₇ := L₆.ext x₇ nTL
      have Lf₇ := Lf₆.ext x₇ nfL
      refine wpAny_execs_cons ?_
      refine AssignCompT (m := (Str.ofString "unwon", .ref D) :: (Str.ofString "k", .int (k : Nat) tk') :: m') (fun i ys => All2 IVN ys ((((AA k).filter (unP AA l)).take i).filter (loP AA l))) (by rfl) rfl (by decide) rfl (by decide) rfl R.handled .nil ?_
      refine Loc.name F₇ lkE ?_
      refine ⟨D, us, rfl, LD, by rw [ar.1]; exact Nat.lt_of_le_of_lt (List.length_filter_le _ _) (hsz k hk), F₇, fun C i v ys h tk mm hv hr e hC nC mx => ?_, fun D₂ h₈ tk₈ us₂ hD₂ F₈ x₈ LD₂ ar₂ => ?_⟩
      · obtain ⟨j, hj, t, rfl⟩ := ar.at' hv
        have hj6 := hlt k hk j (List.mem_filter.mp (List.mem_of_getElem? hj)).1
        obtain ⟨u, hu, ou⟩ := atR a₀ hj6
        refine tests1 ?_
        refine wpAny_isTrue_Compare1 ?_
        refine Subscript_ ?_
        refine cellName (cellExt c₇ e id) ?_
        refine nsName nC mx ?_
        refine item (L₇.ext e id) (Int.natCast_nonneg j) (k63 hj6) hu ?_
        refine wpAny_Constant_none ?_
        refine isnot_none_gen ?_
        refine wpAny_truthy_bool ?_
        cases hT : told AA l j with
        | none =>
          rw [hT] at ou
          have ou' : u = .none := ou
          subst ou'
          refine ⟨h, _, rfl, Ext.refl _ _, ?_⟩
          rw [if_neg (by show ¬ ((!(Value.none == Value.none)) = true); exact Bool.false_ne_true)]
          exact all2Skip hr hj (by unfold loP; rw [hT]; rfl)
        | some m₂ =>
          rw [hT] at ou
          obtain ⟨t', rfl⟩ := ou
          refine ⟨h, _, rfl, Ext.refl _ _, ?_⟩
          rw [if_pos (by show (!(Value.int (m₂ : Nat) t' == Value.none)) = true; rfl)]
          refine nsName nC mx ?_
          exact ⟨h, _, rfl, Ext.refl _ _, all2Snoc hr hj ⟨t, rfl⟩ (by unfold loP; rw [hT]; rfl)⟩
      rw [ar.1, List.take_length] at ar₂
      have e₈ : Ext Non s.heap h₈ := e₇.st x₈ (Nat.le_refl _)
      have c₈ := cellExt c₇ x₈ cL
      have L₈ := L₇.ext x₈ nTL
      have Lf₈ := Lf₇.ext x₈ nfL
      have LD₈ : Ls h₈ D us := LD.ext x₈ (fun q => absurd (Nat.lt_of_lt_of_le F₆.lt hD) (by rw [show D = s.heap.objs.size from q]; exact Nat.lt_irrefl _))
      have un0 := un_nil AA l (AA k)
      have lo0 := lo_nil AA l (AA k)
      have lo1 : (!us₂.isEmpty) = (AA k).any (fun j => evS (told AA l j)) := by
        rw [← lo0]
        have := ar₂.1
        cases us₂ <;> cases hq : List.filter (loP AA l) (List.filter (unP AA l) (AA k)) <;> rw [hq] at this <;> first | rfl | (simp at this)
      have x08 : Ext (At s.heap.objs.size) h₀' h₈ := (x₆.trans x₇).trans x₈
      have f₈ : Ext (fun b => b = s.heap.objs.size ∨ b = fr) h₃ h₈ := f₀.up x08 fun b q => .inl q
      have nJ : ∀ b, (b = s.heap.objs.size ∨ b = fr) → b ≠ J := fun b q => by
        rcases q with q | q
        · rw [q]; exact Nat.ne_of_lt (Nat.lt_trans Lfr' frJ)
        · rw [q]; exact Nat.ne_of_lt frJ
      have hcnd : cndB AA l k = ((told AA l k).isNone && (if l % 2 = 1 then (!us₂.isEmpty) else ((AA k).filter (unP AA l)).isEmpty)) := by
        unfold cndB; rw [lo1, un0]
      refine wpAny_execs_cons (wpAny_If (wpAny_mono (Q := fun b s' => b = cndB AA l k ∧ ∃ h tk, s' = { s with heap := h, toks := tk } ∧ Ext Non h₈ h) ?_ ?_ fun _ _ q => q))
      · refine wpAny_isTrue_BoolOp ?_
        refine wpAny_allTrue_And_cons ?_
        refine wpAny_isTrue_Compare1 ?_
        refine Subscript_ ?_
        refine cellName c₈ ?_
        refine Loc.name F₈ (lkN (lkN lkE)) ?_
        refine item L₈ (Int.natCast_nonneg k) (k63 hk) huk ?_
        refine wpAny_Constant_none ?_
        refine is_none_gen ?_
        refine wpAny_truthy_bool ?_
        cases hT : told AA l k with
        | some m₂ =>
          rw [hT] at ouk
          obtain ⟨t', rfl⟩ := ouk
          rw [if_neg (by show ¬ ((Value.int (m₂ : Nat) t' == Value.none) = true); exact Bool.false_ne_true)]
          refine ⟨?_, h₈, _, rfl, Ext.refl _ _⟩
          rw [hcnd, hT]; rfl
        | none =>
          rw [hT] at ouk
          have ouk' : uk = .none := ouk
          subst ouk'
          rw [if_pos (by show (Value.none == Value.none) = true; rfl)]
          refine wpAny_allTrue_And_cons ?_
          refine isTrue_IfExp ?_
          refine wpAny_isTrue_Compare1 ?_
          refine wpAny_BinOp ?_
          refine Loc.name F₈ (lkN (lkN (lkN n3))) ?_
          refine wpAny_Constant_int ?_
          refine mod_int' (by decide) ?_
          refine wpAny_Constant_int ?_
          refine P.eq_int ?_
          refine wpAny_truthy_bool ?_
          rw [(fmod2 l).1]
          by_cases hod : l % 2 = 1
          · rw [if_pos (decide_eq_true hod)]
            rw [hT, if_pos hod] at hcnd
            refine wpAny_isTrue_Compare1 ?_
            refine Loc.name F₈ lkE ?_
            refine List_ ?_
            refine args_nil ?_
            refine newL (by decide) ?_
            intro e h₉ he Le x₉
            refine neNil (LD₂.ext x₉ id) Le (u₁ _) ?_
            refine wpAny_truthy_bool ?_
            cases hb : us₂.isEmpty with
            | true =>
              rw [if_neg (by exact Bool.false_ne_true)]
              exact ⟨by rw [hcnd, hb]; rfl, h₉, _, rfl, x₉⟩
            | false =>
              rw [if_pos (by rfl)]
              refine wpAny_allTrue_And_nil ?_
              exact ⟨by rw [hcnd, hb]; rfl, h₉, _, rfl, x₉⟩
          · rw [if_neg (fun q => hod (of_decide_eq_true q))]
            rw [hT, if_neg hod] at hcnd
            refine wpAny_isTrue_Compare1 ?_
            refine Loc.name F₈ (lkN lkE) ?_
            refine List_ ?_
            refine args_nil ?_
            refine newL (by decide) ?_
            intro e h₉ he Le x₉
            refine eqNil ⟨us, LD₈.ext x₉ id, ar⟩ Le (u₁ _) ?_
            refine wpAny_truthy_bool ?_
            cases hb : ((AA k).filter (unP AA l)).isEmpty with
            | true =>
              rw [if_pos (by rfl)]
              refine wpAny_allTrue_And_nil ?_
              exact ⟨by rw [hcnd, hb]; rfl, h₉, _, rfl, x₉⟩
            | false =>
              rw [if_neg (by exact Bool.false_ne_true)]
              exact ⟨by rw [hcnd, hb]; rfl, h₉, _, rfl, x₉⟩
      rintro _ _ ⟨rfl, h₉, tk₉, rfl, x₉⟩
      have F₉ := F₈.ext x₉ id
      have Lf₉ := Lf₈.ext x₉ id
      have f₉ := f₈.up x₉ fun _ q => q.elim
      have x09 : Ext (At s.heap.objs.size) h₀' h₉ := x08.up x₉ fun _ q => q.elim
      cases hb : cndB AA l k with
      | false =>
        rw [if_neg Bool.false_ne_true]
        refine wpAny_execs_nil (wpAny_execs_nil (hQ2 _ _ ⟨rfl, ⟨h₉, _, _, fv, rfl, f₉, Lf₉, ?_, F₉, lkN (lkN (lkN n1)), lkN (lkN (lkN n2)), lkN (lkN (lkN n3))⟩, x09.mono fun b q => nJ b (.inl q)⟩))
        rw [fr_succ, hb, if_neg Bool.false_ne_true]
        exact af
      | true =>
        rw [if_pos rfl]
        refine wpAny_execs_cons ?_
        refine appendS ?_
        refine Loc.name F₉ (lkN (lkN (lkN n2))) ?_
        refine ⟨fr, fv, rfl, Lf₉, ?_⟩
        refine Loc.name F₉ (lkN (lkN lkE)) ?_
        refine ⟨fv, Lf₉, fvl, fun h₁₀ Lf₁₀ x₁₀ => wpAny_execs_nil (wpAny_execs_nil (hQ2 _ _ ⟨rfl, ⟨h₁₀, _, _, _, rfl, f₉.up x₁₀ (fun b q => .inr q), Lf₁₀, ?_, F₉.ext x₁₀ (Ne.symm nfL), lkN (lkN (lkN n1)), lkN (lkN (lkN n2)), lkN (lkN (lkN n3))⟩, ?_⟩))⟩
        · rw [fr_succ, hb, if_pos rfl]
          exact af.append (.cons ⟨_, rfl⟩ .nil)
        · exact ((x09.mono fun b q => .inl q : Ext (fun b => b = s.heap.objs.size ∨ b = fr) h₀' h₉).up x₁₀ fun b q => .inr q).mono nJ
    · rintro _ ⟨h₀', tk₀', m', fv, rfl, f₀, Lf, af, F', n1, n2, n3⟩
      have e' : Ext Non s.heap h₀' := e₃.new f₀ fun b q => by
        rcases q with q | q
        · exact Lge b q
        · rw [q]; exact Nat.le_of_lt Lfr'
      have c' := cellExt c₃ f₀ fun q => by
        rcases q with q | q
        · exact cL q
        · exact absurd q (Nat.ne_of_lt (Nat.lt_trans hTc Tfr))
      have L' := L₃.ext f₀ fun q => by
        rcases q with q | q
        · exact nTL q
        · exact absurd q (Nat.ne_of_lt Tfr)
      have cT : s.heap.objs.size + 1 ≠ T := Nat.ne_of_lt hTc
      refine wpAny_execs_cons ?_
      refine forL ?_ ?_
      exact R.handled
      refine Loc.name F' n2 ?_
      refine ⟨fr, fv, rfl, Lf, ?_⟩
      intro J₂ h₂ hJ₂ x₂ Lf₂ hJ22
      have hJe : J₂ = h₀'.objs.size := hJ₂
      have frJ₂ : fr < J₂ := by rw [hJe]; exact Lf.lt
      have nJ₂ : ∀ b, (b = s.heap.objs.size ∨ b = T) → b ≠ J₂ ∧ b ≠ fr := fun b q => by
        rcases q with q | q
        · rw [q]; exact ⟨Nat.ne_of_lt (Nat.lt_trans Lfr' frJ₂), Ne.symm nfL⟩
        · rw [q]; exact ⟨Nat.ne_of_lt (Nat.lt_trans Tfr frJ₂), Nat.ne_of_lt Tfr⟩
      refine ⟨fun j s' => JK s al T AA h₀' l tl j s', ?_, ?_, ?_, ?_⟩
      · exact ⟨h₂, _, _, tv, rfl, x₂.mono fun _ q => q.elim, L'.ext x₂ id, a₀, F'.ext x₂ id, n1, n3⟩
      · rintro j _ h tk ⟨h₀'', tk₀'', m'', tv', rfl, g₀, Lt, at', F'', o1, o3⟩ _ _ x
        exact ⟨h, tk, m'', tv', rfl, g₀.st x (Nat.le_of_eq hJe.symm), Lt.ext x (Nat.ne_of_lt (Nat.lt_trans Tfr frJ₂)), at', F''.ext x (Nat.ne_of_lt (Nat.lt_trans Lfr' frJ₂)), o1, o3⟩
      · rintro j v _ hjv ⟨h₀'', tk₀'', m'', tv', rfl, g₀, Lt, at', F'', o1, o3⟩
        refine hideB fun Q3 hQ3 => ?_
        obtain ⟨k, hk, t, rfl⟩ := af.at' hjv
        have hk6 : k < 6 := (fr_mem.mp (List.mem_of_getElem? hk)).1
        have c'' := cellExt c' g₀ fun q => by
          rcases q with q | q
          · exact cL q
          · exact cT q
        have tvl : tv'.length = 6 := at'.1
        refine wpAny_assign_Name ?_
        refine Loc.storeZ F'' ?_
        intro h₄' F₄ x₄' z₄
        refine wpAny_execs_cons ?_
        refine wpAny_Assign_Subscript ?_
        refine Loc.name F₄ (lkN o3) ?_
        refine cellName (cellExt c'' x₄' cL) ?_
        refine Loc.name F₄ lkE ?_
        refine putItem (k := k) (Lt.ext x₄' nTL) (by rw [tvl]; exact hk6) (by rw [tvl]; decide) ?_
        intro h₅' Lt₅ x₅'
        have x45 : Ext (fun b => b = s.heap.objs.size ∨ b = T) h₀'' h₅' := (x₄'.mono fun b q => .inl q).up x₅' fun b q => .inr q
        refine wpAny_execs_nil (hQ3 _ _ ⟨rfl, ⟨h₅', _, _, _, rfl, g₀.trans x45, Lt₅, ?_, F₄.ext x₅' (Ne.symm nTL), lkN o1, lkN o3⟩, x45.mono nJ₂⟩)
        rw [List.take_add_one, hk, List.foldl_append]
        exact set_rounds at'
      · rintro _ ⟨h₀'', tk₀'', m'', tv', rfl, g₀, Lt, at', F'', o1, o3⟩
        rw [af.1, List.take_length, fr_done] at at'
        have g₃ : Ext (fun b => b = s.heap.objs.size ∨ b = T ∨ b = fr) h₀ h₀'' := ((x03.mono fun b q => .inl q).up f₀ fun b q => by
          rcases q with q | q
          · exact .inl q
          · exact .inr (.inr q)).up g₀ fun b q => by
          rcases q with q | q
          · exact .inl q
          · exact .inr (.inl q)
        refine wpAny_execs_nil (hQ1 _ _ ⟨rfl, ⟨h₀'', _, _, tv', rfl, e'.new g₀ (fun b q => ?_), cellExt c' g₀ (fun q => ?_), Lt, at', F'', o1, ?_⟩, g₃.mono fun b q => ?_⟩)
        · rcases q with q | q
          · exact Lge b q
          · rw [q]; exact Nat.le_of_lt hTL
        · rcases q with q | q
          · exact cL q
          · exact cT q
        · exact Nat.lt_trans Ifr (Lf.ext g₀ fun q => by
            rcases q with q | q
            · exact nfL q
            · exact absurd q (Ne.symm (Nat.ne_of_lt Tfr))).lt
        · rcases q with q | q | q
          · exact wI b (.inl q)
          · exact wI b (.inr q)
          · rw [q]; exact Ne.symm (Nat.ne_of_lt Ifr)
  · rintro _ ⟨h₀, tk₀, m, tv, rfl, e₀, c₀, L₀, a₀, F₀, m1, hI0⟩
    refine wpAny_execs_cons ?_
    refine wpAny_Return_some ?_
    refine cellName c₀ ?_
    exact hQ0 _ _ ⟨h₀, tk₀, T, tv, rfl, rfl, e₀, Nat.le_of_lt hTL, L₀, a₀⟩
end Mine
end
section
open PySem PySem.W PyProof.Rows PySem.Calls PySem.Builtin
set_option maxHeartbeats 8000000
namespace Mine
variable [Bs]
noncomputable def AdvN (I : Addr) (s s' : Shared) : Prop := AdvL I s s' ∧ NC s.heap I
theorem listFeedN' {w : World} {A : Around} {I l : Addr} {vs : List Value} (hh : A.handled = none) : ∀ (n i : Nat) (s : Shared), n = vs.length - i → i ≤ vs.length → Ls s.heap l vs → s.heap.IsListIter I l i → Feed w A (.ref I) (LatL I l) (AdvN I) (eqs (vs.drop i)) s
  | 0, i, s, hn, hi, hl, hit => by
    have e : vs.drop i = [] := List.drop_eq_nil_of_le (by omega)
    rw [e]
    intro s₁ hL
    have hl₁ := Ls.ext hl hL fun q => q.2 rfl
    have hit₁ := itExt hit hL fun q => q.1 rfl
    refine wpAny_pyNext_list_end hh hit₁ hl₁.isList (by simp; omega) fun h' x => ⟨rfl, ⟨h', s₁.toks, rfl, fun b o e n => ⟨o.slots, x b o n e, fun _ => rfl⟩⟩, .it hit₁⟩
  | n + 1, i, s, hn, hi, hl, hit => by
    have hlt : i < vs.length := by omega
    rw [List.drop_eq_getElem_cons hlt]
    intro s₁ hL
    have hl₁ := Ls.ext hl hL fun q => q.2 rfl
    have hit₁ := itExt hit hL fun q => q.1 rfl
    refine wpAny_pyNext_list_item (x := vs[i]) hit₁ hl₁.isList (by simp [hlt]) fun h' x y => ?_
    have ne : l ≠ I := fun q => by
      obtain ⟨o, ho, hc, _⟩ := hit₁
      obtain ⟨o', ho', hc'⟩ := hl₁.get
      rw [q] at ho'; rw [ho] at ho'; cases ho'; rw [hc] at hc'; exact absurd hc' (by decide)
    have z : Ext (At I) s₁.heap h' := Ext.sameBut y rfl
    exact ⟨⟨_, rfl, rfl⟩, ⟨⟨h', s₁.toks, rfl, z⟩, .it hit₁⟩, listFeedN' hh n (i + 1) _ (by omega) hlt (hl₁.ext z ne) x⟩
theorem listFeedN {w : World} {A : Around} {s : Shared} {I l : Addr} {vs : List Value} (hh : A.handled = none) (hl : Ls s.heap l vs) (hit : s.heap.IsListIter I l 0) : Feed w A (.ref I) (LatL I l) (AdvN I) (eqs vs) s := by
  have := listFeedN' (w := w) hh vs.length 0 s rfl (Nat.zero_le _) hl hit
  rwa [List.drop_zero] at this
section
variable {w : World} {A : Around} {E : Value → Shared → Prop} {s : Shared} {env : Env} {mg mb : Str → Option Value}
/- y = [elt for x in iter], over a list; what is in the new list may hang on the heap, and the elements may change what is old -/
inductive AhE [Bs] (s₅ : Shared) (s₁ : Shared) (X : Addr → Prop) (h : Heap) (RR : Nat → List Value → List Value → Nat → Heap → Prop) (i : Nat) (vs : List Value) (ys : List Value) (v : Value) : Prop
  | mk (h₅ : _) (tk₅ : _) (e0 : s₅ = { s₁ with heap := h₅, toks := tk₅ }) (e1 : Ext X h h₅) (e2 : RR (i + 1) vs (ys ++ [v]) (s₁.heap.objs.size + 3) h₅) : AhE s₅ s₁ X h RR i vs ys v
inductive AhV [Bs] (v : Value) (s₁ : Shared) (env : Env) (m : List (Str × Value)) (X : Addr → Prop) (RR : Nat → List Value → List Value → Nat → Heap → Prop) (x : Str) (w : World) (A : Around) (elt : Expr) (scope : Scope) (cl : List (Str × Addr)) (y : Str) (Q : Flow → Shared → Prop) : Prop
  | mk (l : Addr) (vs : List Value) (e0 : v = .ref l) (e1 : Ls s₁.heap l vs) (e2 : vs.length < 1000) (e3 : Loc s₁.heap env.locals m) (e4 : (∀ b, X b → b < s₁.heap.objs.size ∧ b ≠ l ∧ b ≠ env.locals)) (e5 : (∀ h, Ext Non s₁.heap h → RR 0 vs [] (s₁.heap.objs.size + 3) h)) (e6 : (∀ b i ys h h', s₁.heap.objs.size ≤ b → b < s₁.heap.objs.size + 3 → NC h b → Ext (At b) h h' → RR i vs ys (s₁.heap.objs.size + 3) h → RR i vs ys (s₁.heap.objs.size + 3) h')) (e7 : (∀ (C : Addr) i v ys h tk mm, vs[i]? = some v → RR i vs ys (s₁.heap.objs.size + 3) h → Ext X s₁.heap h → s₁.heap.objs.size ≤ C → s₁.heap.objs.size + 3 ≤ h.objs.size → h.Ns C mm → mm x = some v →         wpAny (model PG w) A (eval elt (compEnvC scope cl C env)) (fun v s₅ => AhE s₅ s₁ X h RR i vs ys v) NoE { s₁ with heap := h, toks := tk })) (e8 : (∀ C D h₉ h' tk us mC, s₁.heap.objs.size ≤ C → C < s₁.heap.objs.size + 3 → s₁.heap.objs.size ≤ D → RR vs.length vs us (s₁.heap.objs.size + 3) h₉ → h₉.Ns C mC → Loc h₉ env.locals m → Ext (fun b => b = env.locals ∨ b = C) h₉ h' → Loc h' env.locals ((y, .ref D) :: m) → Ext (fun b => b = env.locals ∨ X b) s₁.heap h' → Ls h' D us → Q .next { s₁ with heap := h', toks := tk })) : AhV v s₁ env m X RR x w A elt scope cl y Q
theorem AssignCompH {elt iter : Expr} {x y : Str} {px py : Pos} {scope : Scope} {cl : List (Str × Addr)} {pos spos : Pos} {Q : Flow → Shared → Prop} {m : List (Str × Value)} (X : Addr → Prop) (RR : Nat → List Value → List Value → Nat → Heap → Prop)
    (hsw : swapsWith (.ListComp elt [⟨.Name x px, iter, [], 0⟩] scope pos) (some (.Name y py)) spos.line env = pure true)
    (hclos : closureFor scope env = pure cl) (hcell : ∀ y ∈ scope.names, y.2 ≠ .cell) (hkind : scope.kind = .function) (hnames : ∀ y ∈ scope.names, y.2 = .local → scope.names.lookup y.1 = some .local) (hx : scope.names.lookup x = some .local)
    (hh : A.handled = none)
    (h : wpAny (model PG w) A (eval iter env) (fun v s₁ => AhV v s₁ env m X RR x w A elt scope cl y Q) E s)
    (hs : ∀ x, foldedSetIterable iter env x = pure x := by intro _; rfl)
    (hk : env.scope.kind = .function := by rfl) (hly : env.kindOf y = some .local := by rfl) :
    wpAny (model PG w) A (exec (.Assign [.Name y py] (.ListComp elt [⟨.Name x px, iter, [], 0⟩] scope pos) spos) env) Q E s := by
  refine AssignComp_ (l := m) hsw hclos hcell hkind hnames hx ?_ hs hk hly
  refine wpAny_mono h (fun v s₁ h => ?_) fun _ _ q => q
  obtain ⟨l, vs, rfl, hl, hlen, F, hX, z0, stab, step, hfin⟩ := h
  refine wpAny_pyIter_list hl.isList ?_
  have x₂ : Ext Non s₁.heap (s₁.heap.push { cls := .type "list_iterator", data := .fields #[.ref l, .int 0 0] }) := Ext.push _ _ _
  have hit : (s₁.heap.push { cls := .type "list_iterator", data := .fields #[.ref l, .int 0 0] }).IsListIter s₁.heap.objs.size l 0 := ⟨_, Heap.get?_push_size _ rfl, rfl, rfl⟩
  have hsz : (s₁.heap.push { cls := .type "list_iterator", data := .fields #[.ref l, .int 0 0] }).objs.size = s₁.heap.objs.size + 1 := Heap.size_push ..
  generalize s₁.heap.push { cls := .type "list_iterator", data := .fields #[.ref l, .int 0 0] } = h₂ at x₂ hit hsz ⊢
  have F₂ := F.ext x₂ id
  have hl₂ := hl.ext x₂ id
  have ltL := F.lt
  have ltl := hl.lt
  refine ⟨_, _, _, listFeedN (s := { s₁ with heap := h₂ }) hh hl₂ hit, by rw [List.length_map]; exact Nat.lt_trans hlen (by decide), fun s' Q E x q => wpAny_pyIter_listiter (itExt hit x id) q, let ⟨o, _, _, ho, _⟩ := F₂; ⟨o, ho⟩, fun C D hC hD hDC hDs hCs => ?_⟩
  have hDs' : D = s₁.heap.objs.size + 1 := by rw [hDs]; exact hsz
  have hCs' : C = s₁.heap.objs.size + 1 + 1 := by rw [hCs]; show h₂.objs.size + 1 = _; rw [hsz]
  generalize hI : s₁.heap.objs.size = I at *
  have ID : I < D := by rw [hDs']; exact Nat.lt_succ_self _
  have IC : I < C := by rw [hCs']; exact Nat.lt_succ_of_lt (Nat.lt_succ_self _)
  have D3 : D < I + 3 := by rw [hDs']; exact Nat.add_lt_add_left (by decide) I
  have C3 : C < I + 3 := by rw [hCs']; exact Nat.add_lt_add_left (show 2 < 3 by decide) I
  have lI : l ≠ I := Nat.ne_of_lt ltl
  have nX : ∀ b, I ≤ b → ¬ X b := fun b hb q => absurd (hX b q).1 (Nat.not_lt.mpr hb)
  have nLD : env.locals ≠ D := Nat.ne_of_lt (Nat.lt_trans ltL ID)
  have nLC : env.locals ≠ C := Nat.ne_of_lt (Nat.lt_trans ltL IC)
  have hid : ∀ {h h' : Heap} {Y : Addr → Prop}, Ext (fun b => b = I ∨ X b) h₂ h → Ext Y h h' → (∀ b, Y b → b = I ∨ b = C ∨ b = D ∨ X b) → Ext (fun b => b = I ∨ X b) h₂ h' := fun x y i => x.step y fun a o e z => by
    have := Heap.lt_size e
    rcases i a z with q | q | q | q
    · exact .inl q
    · rw [q, hCs', hsz] at this; exact absurd this (Nat.not_lt.mpr (Nat.le_succ _))
    · rw [q, hDs', hsz] at this; exact absurd this (Nat.lt_irrefl _)
    · exact .inr q
  have low : ∀ {h : Heap}, Ext (fun b => b = I ∨ X b) h₂ h → Ext X s₁.heap h := fun e => (x₂.mono fun _ q => q.elim).step e fun a o ea q => by
    rcases q with q | q
    · rw [q, ← hI] at ea; exact absurd (Heap.lt_size ea) (Nat.lt_irrefl _)
    · exact q
  refine ⟨fun i ys s => ∃ h tk, s = { s₁ with heap := h, toks := tk } ∧ Ext (fun b => b = I ∨ X b) h₂ h ∧ RR i vs ys (I + 3) h, ?_, ?_, ?_, ?_⟩
  · rintro s s' ⟨⟨h', tk, rfl, e⟩, _⟩
    exact ⟨fun ys l => l.ext e (Ne.symm (Nat.ne_of_lt ID)), fun m l => e.ns l (Ne.symm (Nat.ne_of_lt IC))⟩
  · intro h tk e _ _
    exact ⟨⟨h, tk, rfl, e.mono fun _ q => q.elim, z0 h (x₂.non e)⟩, (e.mono fun _ q => q.elim : Ext (fun b => b ≠ I ∧ b ≠ l) h₂ h)⟩
  · rintro i p y ys _ _ hp hy ⟨h, tk, rfl, e, hr⟩ ⟨⟨h', tk', rfl, e'⟩, nI⟩ L3 ⟨m₀, nC₀⟩ h₃ tk₃ m' nC mx e₃ LD
    obtain ⟨v', hv, rfl⟩ : ∃ v, vs[i]? = some v ∧ (fun z => z = v) = p := by
      rw [List.getElem?_map] at hp
      cases e : vs[i]? with
      | none => rw [e] at hp; cases hp
      | some v => rw [e] at hp; exact ⟨v, rfl, Option.some.inj hp⟩
    have hy' : y = v' := hy
    subst hy'
    have r1 := stab I i ys _ _ (Nat.le_refl _) (Nat.lt_add_of_pos_right (by decide)) nI e' hr
    have r2 := stab C i ys _ _ (Nat.le_of_lt IC) C3 (.ns nC₀) e₃ r1
    have e3 : Ext (fun b => b = I ∨ X b) h₂ h₃ := hid (hid e e' fun b q => .inl q) e₃ fun b q => .inr (.inl q)
    show wpAny _ A (pure true) _ _ _
    refine wpAny_pure ?_
    rw [if_pos rfl]
    have szC : I + 3 ≤ h₃.objs.size := by have : C < h₃.objs.size := nC.lt; rw [hCs'] at this; exact this
    refine wpAny_mono (step C i y ys h₃ tk₃ m' hv r2 (low e3) (Nat.le_of_lt IC) szC nC mx) (fun v s₅ q => ?_) fun _ _ q => q
    obtain ⟨h₅, tk₅, rfl, e₅, r3⟩ := q
    rw [hI] at r3
    have LD₅ := LD.ext e₅ (nX _ (Nat.le_of_lt ID))
    refine ⟨LD₅, ⟨m', e₅.ns nC (nX _ (Nat.le_of_lt IC))⟩, fun h₆ LD₆ e₆ => ⟨⟨h₆, tk₅, rfl, hid (hid e3 e₅ fun b q => .inr (.inr (.inr q))) e₆ fun b q => .inr (.inr (.inl q)), stab D (i + 1) _ _ _ (Nat.le_of_lt ID) D3 (.ls LD₅) e₆ r3⟩, ?_⟩⟩
    show Ext (fun b => b ≠ I ∧ b ≠ l) h' h₆
    refine ((e₃.mono fun b q => ?_).up e₅ fun b q => ?_).up e₆ fun b q => ?_
    · rw [show b = C from q]; exact ⟨Ne.symm (Nat.ne_of_lt IC), Ne.symm (Nat.ne_of_lt (Nat.lt_trans ltl IC))⟩
    · exact ⟨Nat.ne_of_lt (hX b q).1, (hX b q).2.1⟩
    · rw [show b = D from q]; exact ⟨Ne.symm (Nat.ne_of_lt ID), Ne.symm (Nat.ne_of_lt (Nat.lt_trans ltl ID))⟩
  · rintro ys _ _ ⟨h, tk, rfl, e, hr⟩ ⟨⟨h', tk', rfl, e'⟩, nI⟩ L3 ⟨mC, nC⟩
    have r1 := stab I _ ys _ _ (Nat.le_refl _) (Nat.lt_add_of_pos_right (by decide)) nI e' hr
    rw [List.length_map] at r1
    have e3 : Ext (fun b => b = I ∨ X b) h₂ h' := hid e e' fun b q => .inl q
    have e4 := low e3
    have F' : Loc h' env.locals m := F.ext e4 fun q => (hX _ q).2.2 rfl
    refine ⟨F', fun h6 F6 e6 => ?_⟩
    refine hfin C D h' h6 _ ys mC (Nat.le_of_lt IC) C3 (Nat.le_of_lt ID) r1 nC F' e6 F6 ?_ (L3.ext e6 fun q => ?_)
    · refine (e4.mono fun b q => .inr q).step e6 fun a o ea q => ?_
      rcases q with q | q
      · exact .inl q
      · exact absurd (Heap.lt_size ea) (by rw [q, hI]; exact Nat.not_lt.mpr (Nat.le_of_lt IC))
    · rcases q with q | q
      · exact nLD q.symm
      · exact hDC q
end
end Mine
end
section
open PySem PySem.W PyProof.Rows PySem.Calls PySem.Builtin
set_option maxHeartbeats 8000000
namespace Mine
variable [Bs]
section
variable {w : World} {A : Around} {E : Value → Shared → Prop} {s : Shared} {env : Env} {mg mb : Str → Option Value}
/- y = [x.tag for x in iter], where iter hands out elements one by one -/
inductive AgV [Bs] (v : Value) (s₁ : Shared) (w : World) (A : Around) (ys : List Value) (xs : List Str) (env : Env) (m : List (Str × Value)) (y : Str) (Q : Flow → Shared → Prop) : Prop
  | mk (a g Fr lo hi ra N : Nat) (e0 : v = .ref a) (e1 : s₁.heap.IsGen a g) (e2 : Feed w A (.ref a) (LatG lo hi ra N s₁.heap.objs.size) (AdvG Fr N) (eqs ys) s₁) (e3 : TabM s₁.heap 27 23 selQ Fr) (e4 : N ≤ Fr) (e5 : Fr < s₁.heap.objs.size) (e6 : hi ≤ N) (e7 : 114 < N) (e8 : ra < N) (e9 : ys.length < 1000) (e10 : All2 (fun v x => ∃ t, El s₁.heap lo hi v (.str x t)) ys xs) (e11 : Loc s₁.heap env.locals m) (e12 : env.locals < N) (e13 : 114 < env.locals) (e14 : ∀ D h' gs tk us, s₁.heap.objs.size ≤ D → Loc h' env.locals ((y, .ref D) :: m) → Ext (fun b => b = env.locals ∨ N ≤ b) s₁.heap h' → (AllBare s₁.gens → AllBare gs) → TabM h' 27 23 selQ Fr → Ls h' D us → All2 SV us xs → Q .next { s₁ with heap := h', gens := gs, toks := tk }) : AgV v s₁ w A ys xs env m y Q
theorem AssignCompG {iter : Expr} {x y : Str} {px py pe pa : Pos} {scope : Scope} {cl : List (Str × Addr)} {pos spos : Pos} {Q : Flow → Shared → Prop} {m : List (Str × Value)} {xs : List Str} {ys : List Value}
    (hsw : swapsWith (.ListComp (.Attribute (.Name x pe) (Str.ofString "tag") pa) [⟨.Name x px, iter, [], 0⟩] scope pos) (some (.Name y py)) spos.line env = pure true)
    (hclos : closureFor scope env = pure cl) (hcell : ∀ y ∈ scope.names, y.2 ≠ .cell) (hkind : scope.kind = .function) (hnames : ∀ y ∈ scope.names, y.2 = .local → scope.names.lookup y.1 = some .local) (hx : scope.names.lookup x = some .local)
    (hxd : (x == ("__debug__" : Str)) = false)
    (h : wpAny (model PG w) A (eval iter env) (fun v s₁ => AgV v s₁ w A ys xs env m y Q) E s)
    (hs : ∀ x, foldedSetIterable iter env x = pure x := by intro _; rfl)
    (hk : env.scope.kind = .function := by rfl) (hly : env.kindOf y = some .local := by rfl) :
    wpAny (model PG w) A (exec (.Assign [.Name y py] (.ListComp (.Attribute (.Name x pe) (Str.ofString "tag") pa) [⟨.Name x px, iter, [], 0⟩] scope pos) spos) env) Q E s := by
  refine AssignComp_ (l := m) hsw hclos hcell hkind hnames hx ?_ hs hk hly
  refine wpAny_mono h (fun v s₁ h => ?_) fun _ _ q => q
  obtain ⟨a, g, Fr, lo, hi, ra, N, rfl, hg, Fd, T, hF, hF', hhi, hN, hra, hlen, hel, F, hLN, hL, hfin⟩ := h
  refine wpAny_pyIter_gen hg ?_
  have ltL := F.lt
  refine ⟨_, _, _, Fd, by rw [List.length_map]; exact Nat.lt_trans hlen (by decide), fun s' Q E x q => wpAny_pyIter_gen (genExt hg x id) q, let ⟨o, _, _, ho, _⟩ := F; ⟨o, ho⟩, fun C D hC hD hDC hDs hCs => ?_⟩
  have NS : N ≤ s₁.heap.objs.size := Nat.le_trans hF (Nat.le_of_lt hF')
  have SD : s₁.heap.objs.size ≤ D := Nat.le_of_eq hDs.symm
  have SC : s₁.heap.objs.size ≤ C := by rw [hCs]; exact Nat.le_succ _
  have ND : N ≤ D := Nat.le_trans NS SD
  have NCC : N ≤ C := Nat.le_trans NS SC
  have FrD : Fr < D := Nat.lt_of_lt_of_le hF' SD
  have FrC : Fr < C := Nat.lt_of_lt_of_le hF' SC
  have nLD : env.locals ≠ D := Nat.ne_of_lt (Nat.lt_of_lt_of_le hLN ND)
  have wr : ∀ {h : Heap} {b : Nat}, s₁.heap.objs.size ≤ b → ¬ LI h b → Wr lo hi ra N s₁.heap.objs.size h b := fun {h b} hb n =>
    ⟨Nat.lt_of_lt_of_le hN (Nat.le_trans NS hb), fun z => absurd z.2 (Nat.not_lt.mpr (Nat.le_trans hhi (Nat.le_trans NS hb))), fun z => absurd (Nat.lt_of_lt_of_le hra (Nat.le_trans NS hb)) (by rw [z]; exact Nat.lt_irrefl _), fun z => absurd z.2 (Nat.not_lt.mpr hb), n⟩
  have elE : ∀ {h : Heap} {v t : Value}, El s₁.heap lo hi v t → Ext (Nw N) s₁.heap h → El h lo hi v t := fun e x => e.ext x fun b _ hb q => absurd hb (Nat.not_lt.mpr (Nat.le_trans hhi q))
  refine ⟨fun i us s => ∃ h gs tk, s = { s₁ with heap := h, gens := gs, toks := tk } ∧ Ext (Nw N) s₁.heap h ∧ TabM h 27 23 selQ Fr ∧ (AllBare s₁.gens → AllBare gs) ∧ All2 SV us (xs.take i), ?_, ?_, ?_, ?_⟩
  · rintro s s' ⟨h', gs, tk, rfl, e, _⟩
    refine ⟨fun ys l => l.ext e fun q => ?_, fun m l => e.ns l fun q => ?_⟩
    · rcases q with q | q
      · exact Nat.ne_of_lt FrD q.symm
      · exact lsNLI l q.2
    · rcases q with q | q
      · exact Nat.ne_of_lt FrC q.symm
      · exact nsNLI l q.2
  · intro h tk e _ _
    exact ⟨⟨h, _, tk, rfl, e.mono fun _ q => q.elim, T.ext e (by decide) (by decide) (fun _ q => q.elim), id, by rw [List.take_zero]; exact .nil⟩, (e.mono fun _ q => q.elim : Ext (Wr lo hi ra N s₁.heap.objs.size s₁.heap) s₁.heap h), rfl⟩
  · rintro i p v us _ _ hp hv ⟨h, gs, tk, rfl, e, T₀, hb, au⟩ ⟨h', gs', tk', rfl, e', hb'⟩ L3 ⟨m₀, nC₀⟩ h₃ tk₃ m' nC mx e₃ LD
    obtain ⟨v', hv', rfl⟩ : ∃ v, ys[i]? = some v ∧ (fun z => z = v) = p := by
      rw [List.getElem?_map] at hp
      cases e : ys[i]? with
      | none => rw [e] at hp; cases hp
      | some v => rw [e] at hp; exact ⟨v, rfl, Option.some.inj hp⟩
    have hy' : v = v' := hv
    subst hy'
    obtain ⟨xx, hxx, t, el⟩ := hel.at' hv'
    have e1 : Ext (Nw N) s₁.heap h' := e.trans (vnUp e' hF)
    have e2 : Ext (Nw N) s₁.heap h₃ := e1.up e₃ fun b q => by rw [show b = C from q]; exact NCC
    have T1 := T₀.vn e' (by decide) (by decide) hN hF (Nat.le_refl _)
    have T2 := T1.ext e₃ (by decide) (by decide) fun b q => .inr ⟨by rw [show b = C from q]; exact Nat.lt_of_lt_of_le hN NCC, .inr (by rw [show b = C from q]; exact Nat.le_of_lt FrC)⟩
    show wpAny _ A (pure true) _ _ _
    refine wpAny_pure ?_
    rw [if_pos rfl]
    refine Attribute_Name_ ?_
    refine nsName (env := compEnvC scope cl C env) nC mx ?_ hkind (lookup_relabel_local hx) hxd
    refine getTag (elE el e2) rfl ?_
    intro tk₅
    refine ⟨LD, ⟨m', nC⟩, fun h₆ LD₆ e₆ => ⟨⟨h₆, _, _, rfl, e2.up e₆ (fun b q => by rw [show b = D from q]; exact ND), T2.ext e₆ (by decide) (by decide) (fun b q => .inr ⟨by rw [show b = D from q]; exact Nat.lt_of_lt_of_le hN ND, .inr (by rw [show b = D from q]; exact Nat.le_of_lt FrD)⟩), fun b => hb' (hb b), ?_⟩, ?_, rfl⟩⟩
    · rw [List.take_add_one, hxx]
      exact au.append (.cons ⟨t, rfl⟩ .nil)
    · show Ext (Wr lo hi ra N s₁.heap.objs.size h') h' h₆
      refine (e₃.mono fun b q => ?_).up e₆ fun b q => ?_
      · rw [show b = C from q]; exact wr SC (nsNLI nC₀)
      · rw [show b = D from q]; exact wr SD (lsNLI L3)
  · rintro us _ _ ⟨h, gs, tk, rfl, e, T₀, hb, au⟩ ⟨h', gs', tk', rfl, e', hb'⟩ L3 ⟨mC, nC⟩
    have e1 : Ext (Nw N) s₁.heap h' := e.trans (vnUp e' hF)
    have T1 := T₀.vn e' (by decide) (by decide) hN hF (Nat.le_refl _)
    have F' : Loc h' env.locals m := F.ext e1 (Nat.not_le.mpr hLN)
    rw [List.length_map, hel.1, List.take_length] at au
    refine ⟨F', fun h6 F6 e6 => ?_⟩
    refine hfin D h6 _ _ us SD F6 ((e1.mono fun b q => .inr q).up e6 fun b q => ?_) (fun b => hb' (hb b)) (T1.ext e6 (by decide) (by decide) fun b q => ?_) (L3.ext e6 fun q => ?_) au
    · rcases q with q | q
      · exact .inl q
      · rw [q]; exact .inr NCC
    · rcases q with q | q
      · rw [q]; exact .inr ⟨hL, .inl (.ns F')⟩
      · rw [q]; exact .inr ⟨Nat.lt_of_lt_of_le hN NCC, .inr (Nat.le_of_lt FrC)⟩
    · rcases q with q | q
      · exact nLD q.symm
      · exact hDC q
end
/- a plain text, sign by sign -/
noncomputable abbrev signs (x : Str) : List (Value → Prop) := (List.range x.cps.size).map fun i => SignAt x i
theorem strFeed' {w : World} {A : Around} {I : Addr} {x : Str} {t : Tok} (hh : A.handled = none) : ∀ (n i : Nat) (s : Shared), n = x.cps.size - i → i ≤ x.cps.size → s.heap.IsStrIter I "str_ascii_iterator" x t i → Feed w A (.ref I) (LatR I) (AdvL I) (((List.range x.cps.size).drop i).map fun i => SignAt x i) s
  | 0, i, s, hn, hi, hit => by
    have e : (List.range x.cps.size).drop i = [] := List.drop_eq_nil_of_le (by simp; omega)
    rw [e]
    intro s₁ hL
    have hit₁ : s₁.heap.IsStrIter I "str_ascii_iterator" x t i := let ⟨o, ho, hc, hd⟩ := hit; ⟨o, hL.get ho (fun q => q rfl) (.inr fun _ _ z => nomatch (hd.symm.trans z)), hc, hd⟩
    exact wpAny_pyNext_ascii_end hh hit₁ (by simp; omega) fun h' x => ⟨rfl, h', s₁.toks, rfl, fun b o e n => ⟨o.slots, x b o n e, fun _ => rfl⟩⟩
  | n + 1, i, s, hn, hi, hit => by
    have hlt : i < (List.range x.cps.size).length := by simp; omega
    have hlt' : i < x.cps.size := by omega
    rw [List.drop_eq_getElem_cons hlt]
    intro s₁ hL
    have hit₁ : s₁.heap.IsStrIter I "str_ascii_iterator" x t i := let ⟨o, ho, hc, hd⟩ := hit; ⟨o, hL.get ho (fun q => q rfl) (.inr fun _ _ z => nomatch (hd.symm.trans z)), hc, hd⟩
    refine wpAny_pyNext_ascii_item hit₁ (c := x.cps[i]) (by simp [hlt']) fun h' y z => ?_
    exact ⟨⟨_, rfl, _, _, by simp [hlt'], rfl⟩, ⟨h', _, rfl, Ext.sameBut z rfl⟩, strFeed' hh n (i + 1) _ (by omega) (by omega) y⟩
theorem strFeed {w : World} {A : Around} {s : Shared} {I : Addr} {x : Str} {t : Tok} (hh : A.handled = none) (hit : s.heap.IsStrIter I "str_ascii_iterator" x t 0) : Feed w A (.ref I) (LatR I) (AdvL I) (signs x) s := by
  have := strFeed' (w := w) hh x.cps.size 0 s rfl (Nat.zero_le _) hit
  rwa [List.drop_zero] at this
section
variable {w : World} {A : Around} {E : Value → Shared → Prop} {s : Shared} {env : Env} {mg mb : Str → Option Value}
theorem boot_ord : bootBuiltins (Str.ofString "ord") = some (.builtin "ord") := by kernel_rfl
theorem nsIn_ord (p : Params) : nsIn (heapK p) mainGlobals (Str.ofString "ord") = some none := by kernel_rfl
inductive Ord1 [Bs] (v : Value) (Q : Value → Shared → Prop) (s₁ : Shared) : Prop
  | mk (c : _) (t : _) (e0 : v = .str ⟨#[c]⟩ t) (e1 : ∀ t tk, Q (.int (c : Nat) t) { s₁ with toks := tk }) : Ord1 v Q s₁
theorem ord_ {e : Expr} {p pos : Pos} {Q : Value → Shared → Prop} (G : Gd w mg mb s.heap)
    (h : wpAny (model PG w) A (eval e env) (fun v s₁ => Ord1 v Q s₁) E s)
    (hk : env.scope.kind = .function := by rfl) (hl : env.kindOf (Str.ofString "ord") = some .globalImplicit := by rfl) (hg : env.globals = mainGlobals := by rfl) (hb : env.builtins = builtinsNs := by rfl)
    (he : starEach [e] env = [(false, eval e env)] := by rfl) (hc : eval (.Call (.Name (Str.ofString "ord") p) [e] [] pos) env = (do callWith pos (← eval (.Name (Str.ofString "ord") p) env) [] (backTo pos (starEach [e] env)) (backToKw pos (keywordEach [] env))) := by rfl) :
    wpAny (model PG w) A (eval (.Call (.Name (Str.ofString "ord") p) [e] [] pos) env) Q E s := by
  refine Call_ (Gd.built G (nsIn_ord _) boot_ord (callWith_builtin1 (args_cons (wpAny_mono h (fun v s₁ h₁ => ?_) fun _ _ x => x) he) he) (by decide) hk hl hg hb) hc
  obtain ⟨c, t, rfl, hq⟩ := h₁
  exact args_nil (PySem.P.ord_of_char (hq _ _))
/- bytes([ord(sign) for sign in name]) -/
theorem bytesOf_ {n : Str} {pn pb po pe ps pl pc pc' : Pos} {scope : Scope} {cl : List (Str × Addr)} {Q : Value → Shared → Prop} {z : Str} {u : Tok} (G : Gd w mg mb s.heap) (hh : A.handled = none)
    (hclos : closureFor scope env = pure cl) (hcell : ∀ y ∈ scope.names, y.2 ≠ .cell) (hkind : scope.kind = .function) (hnames : ∀ y ∈ scope.names, y.2 = .local → scope.names.lookup y.1 = some .local) (hx : scope.names.lookup (Str.ofString "sign") = some .local)
    (hor : ∀ C, (compEnvC scope cl C env).kindOf (Str.ofString "ord") = some .globalImplicit)
    (hz : z.cps.all (· < 128) = true) (hzl : z.cps.size < 1000)
    (hn : ∀ Q' : Value → Shared → Prop, Q' (.str z u) s → wpAny (model PG w) A (eval (.Name n pn) env) Q' E s)
    (h : ∀ h' t tk, Ext Non s.heap h' → Q (.bytes (octs z) t) { s with heap := h', toks := tk })
    (hk : env.scope.kind = .function := by rfl) (hl : env.kindOf (Str.ofString "bytes") = some .globalImplicit := by rfl) (hg : env.globals = mainGlobals := by rfl) (hb : env.builtins = builtinsNs := by rfl)
    (hs : ∀ x, foldedSetIterable (.Name n pn) env x = pure x := by intro _; rfl)
    (he : starEach [.ListComp (.Call (.Name (Str.ofString "ord") po) [.Name (Str.ofString "sign") pe] [] pc) [⟨.Name (Str.ofString "sign") ps, .Name n pn, [], 0⟩] scope pl] env = [(false, eval (.ListComp (.Call (.Name (Str.ofString "ord") po) [.Name (Str.ofString "sign") pe] [] pc) [⟨.Name (Str.ofString "sign") ps, .Name n pn, [], 0⟩] scope pl) env)] := by rfl) :
    wpAny (model PG w) A (eval (.Call (.Name (Str.ofString "bytes") pb) [.ListComp (.Call (.Name (Str.ofString "ord") po) [.Name (Str.ofString "sign") pe] [] pc) [⟨.Name (Str.ofString "sign") ps, .Name n pn, [], 0⟩] scope pl] [] pc') env) Q E s := by
  refine wpAny_Call_ofName (Gd.built G (nsIn_bytes _) boot_bytes' ?_ (by decide) hk hl hg hb)
  rw [he]
  refine PyProof.Rows.callWith_type rfl (evalArgs_plain (spliced_cons (wpAny_mono (Q := fun v s₁ => ∃ D h₁ tk us, v = .ref D ∧ s₁ = { s with heap := h₁, toks := tk } ∧ Ext Non s.heap h₁ ∧ Ls h₁ D us ∧ All2 IV us (z.cps.toList.map fun (c : Nat) => (c : Int))) ?_ (fun v s₁ h₁ => spliced_nil ?_) fun _ _ x => x)))
  · refine comp_ hclos hcell hkind hnames hx ?_ hs
    refine hn _ (wpAny_pyIter_ascii hz ?_)
    have x₂ : Ext Non s.heap (s.heap.push { cls := .type "str_ascii_iterator", data := .fields #[.str z u, .int 0 0] }) := Ext.push _ _ _
    have hit : (s.heap.push { cls := .type "str_ascii_iterator", data := .fields #[.str z u, .int 0 0] }).IsStrIter s.heap.objs.size "str_ascii_iterator" z u 0 := ⟨_, Heap.get?_push_size _ rfl, rfl, rfl⟩
    have hsz : (s.heap.push { cls := .type "str_ascii_iterator", data := .fields #[.str z u, .int 0 0] }).objs.size = s.heap.objs.size + 1 := Heap.size_push ..
    generalize s.heap.push { cls := .type "str_ascii_iterator", data := .fields #[.str z u, .int 0 0] } = h₂ at x₂ hit hsz ⊢
    refine ⟨_, _, _, strFeed (s := { s with heap := h₂ }) hh hit, by rw [List.length_map, List.length_range]; exact Nat.lt_trans hzl (by decide), fun s' Q E x q => wpAny_pyIter_striter_ascii (i := 0) (x := z) (t := u) (let ⟨o, ho, hc, hd⟩ := hit; ⟨o, x.get ho id (.inr fun _ _ z => nomatch (hd.symm.trans z)), hc, hd⟩) q, fun C D hC hD hDC hDs hCs => ?_⟩
    have hDs' : D = s.heap.objs.size + 1 := by rw [hDs]; exact hsz
    have hCs' : C = s.heap.objs.size + 1 + 1 := by rw [hCs]; show h₂.objs.size + 1 = _; rw [hsz]
    have nID : s.heap.objs.size ≠ D := by rw [hDs']; exact Nat.ne_of_lt (Nat.lt_succ_self _)
    have nIC : s.heap.objs.size ≠ C := by rw [hCs']; exact Nat.ne_of_lt (Nat.lt_succ_of_lt (Nat.lt_succ_self _))
    have hh0 : ∀ {h : Heap}, Ext (fun b => b = s.heap.objs.size) h₂ h → Ext Non s.heap h := fun e => x₂.st e (Nat.le_refl _)
    refine compOkT (s₂ := { s with heap := h₂ }) (I := s.heap.objs.size) (fun i ys => All2 IV ys ((z.cps.toList.take i).map fun (c : Nat) => (c : Int))) (by show s.heap.objs.size < h₂.objs.size; rw [hsz]; exact Nat.lt_succ_self _) hDs hCs (fun s s' e => e.mono fun b q => ?_) .nil (fun i p v ys h tk mm hp hy hr e hsz' nC mx => ?_) (fun ys h9 tk e LD hr mC => ?_) (by rw [List.length_map, List.length_range]; exact Nat.lt_trans hzl (by decide))
    · rcases q with q | q <;> obtain rfl := q.symm
      · exact Ne.symm nIC
      · exact Ne.symm nID
    · obtain ⟨c, u', hc, rfl⟩ : SignAt z i v := by
        rw [List.getElem?_map] at hp
        cases e : (List.range z.cps.size)[i]? with
        | none => rw [e] at hp; cases hp
        | some j =>
          rw [e] at hp
          have := Option.some.inj hp
          rw [← this] at hy
          rw [(rangeAt e).1] at hy
          exact hy
      have G' : Gd w mg mb h := G.ext (hh0 e) fun _ q => q.elim
      refine tests0 ?_
      refine ⟨h, tk, rfl, Ext.refl _ _, ?_⟩
      rw [if_pos rfl]
      refine ord_ (env := compEnvC scope cl C env) G' ?_ hkind (hor C) hg hb
      refine nsName (env := compEnvC scope cl C env) nC mx ⟨c, u', rfl, fun t tk => ⟨h, tk, rfl, Ext.refl _ _, ?_⟩⟩ hkind (lookup_relabel_local hx)
      have hc' : z.cps.toList[i]? = some c := by rw [Array.getElem?_toList]; exact hc
      rw [List.take_add_one, hc', List.map_append]
      exact hr.append (.cons ⟨t, rfl⟩ .nil)
    · intro h' hsb
      have e' : Ext (At C) h9 h' := Ext.sameBut hsb rfl
      rw [List.length_map, List.length_range, show z.cps.size = z.cps.toList.length from Array.length_toList.symm, List.take_length] at hr
      exact ⟨D, h', tk, ys, rfl, rfl, (hh0 e).st e' (by rw [hCs']; exact Nat.le_succ_of_le (Nat.le_succ _)), LD.ext e' hDC, hr⟩
  · obtain ⟨D, h₁, tk, us, rfl, rfl, x₁, LD, au⟩ := h₁
    have hul : us.length = z.cps.size := by rw [au.1, List.length_map, Array.length_toList]
    refine PySem.call_bytes_ints (s := { s with heap := h₁, toks := tk }) (ns := z.cps.toList.map fun (c : Nat) => (c : Int)) LD.isList (intsOf _ _ au.1 fun i v hv => ?_) (fun n hn => ?_) (by rw [hul, sizeLine_eq]; omega) hh fun h' t k hk' => ?_
    · obtain ⟨n, hn, t, rfl⟩ := au.at' hv
      exact ⟨n, t, hn, rfl⟩
    · obtain ⟨c, hc, rfl⟩ := List.mem_map.mp hn
      have := Array.all_eq_true_iff_forall_mem.mp hz c (by simpa using hc)
      have hlt : c < 128 := of_decide_eq_true this
      omega
    · have e : byteArr (z.cps.toList.map fun (c : Nat) => (c : Int)) = octs z := by
        unfold byteArr octs
        rw [List.map_map]
        obtain ⟨l⟩ := z.cps
        simp [Function.comp_def]
      rw [e]
      exact h h' t k (x₁.non (Ext.of hk' _))
end
end Mine
end
section
open PySem PySem.W PyProof.Rows PySem.Calls PySem.Builtin
set_option maxHeartbeats 8000000
namespace Mine
variable [Bs]
section
variable {w : World} {A : Around} {E : Value → Shared → Prop} {s : Shared} {env : Env} {mg mb : Str → Option Value}
/- two lists whose items are alike -/
theorem neSame {l b : Addr} {us vs : List Value} {Q : Value → Shared → Prop} (L1 : Ls s.heap l us) (L2 : Ls s.heap b vs) (hlen : us.length = vs.length) (hu : A.units < cLine)
    (he : ∀ (j : Nat) (u v : Value), us[j]? = some u → vs[j]? = some v → MeetsSeq.EqGives u v true ∨ u = .none ∧ v = .none) (h : Q (.bool false) s) : wpAny (model PG w) A (compareOp .NotEq (.ref l) (.ref b)) Q E s := by
  have key := PySem.SeqAt.RcNeAt.lists (A := A) (s := s) (e := fun _ => true) L1.isList L2.isList (by simpa using hlen) hu (fun j h1 h2 => by
    have h1' : j < us.length := by simpa using h1
    have h2' : j < vs.length := by simpa using h2
    rcases he j us[j] vs[j] (List.getElem?_eq_getElem h1') (List.getElem?_eq_getElem h2') with q | ⟨q1, q2⟩
    · exact MeetsSeq.EqGives.at (by simpa using q) _ _
    · have : us.toArray[j] = .none := by simpa using q1
      rw [this]
      have : vs.toArray[j] = .none := by simpa using q2
      rw [this]
      exact PySem.SeqAt.EqAt.same _)
  refine key PG w E Q ?_
  have e : (!(List.range us.toArray.size).all fun _ => true) = false := by
    rw [show ((List.range us.toArray.size).all fun _ => true) = true from List.all_eq_true.mpr fun _ _ => rfl]; rfl
  rw [e]; exact h
/- l[::-1] -/
inductive Rev1 [Bs] (o : Value) (s₁ : Shared) (Q : Value → Shared → Prop) : Prop
  | mk (l : Addr) (vs : List Value) (e0 : o = .ref l) (e1 : Ls s₁.heap l vs) (e2 : vs.length < 2 ^ 22) (e3 : ∀ D h' tk, s₁.heap.objs.size ≤ D → Ls h' D vs.reverse → Ext Non s₁.heap h' → Q (.ref D) { s₁ with heap := h', toks := tk }) : Rev1 o s₁ Q
theorem cutRev {value : Expr} {k : Nat} {p p1 p2 pos : Pos} {Q : Value → Shared → Prop}
    (h : wpAny (model PG w) A (eval value env) (fun o s₁ => Rev1 o s₁ Q) E s)
    (ht : ∀ o r, letTemporaryGo value o r = pure () := by intro _ _; rfl) : wpAny (model PG w) A (eval (.Subscript value (.Slice none none (some (.UnaryOp .USub (.Constant (.int 1) k p1) p2)) p) pos) env) Q E s := by
  refine wpAny_Subscript_Slice_step (T := "list") list_getitem_lookup (wpAny_mono h (fun o s₁ h₁ => ?_) fun _ _ e => e) ht
  obtain ⟨l, vs, rfl, L, hlen, hq⟩ := h₁
  refine wpAny_Slice ?_
  rw [evalPart_none]
  refine wpAny_pure ?_
  refine wpAny_pure ?_
  refine evalPart_some_step (wpAny_UnaryOp (wpAny_Constant_int (neg_int ?_)))
  refine ⟨(L.isList.push _).typeIs, wpAny_getItem_list_slice (st := some (-1)) (L.isList.push _) (Heap.IsSliceOf.new ..) .none .none (.int (-1) _) (by decide) ?_ (by rw [List.size_toArray, sizeLine_eq]; omega)⟩
  refine hq _ _ _ ?_ ?_ ((Ext.push Non _ _).non (Ext.push _ _ _))
  · rw [Heap.size_push]; exact Nat.le_succ _
  · rw [krv_pick]
    exact Ls.new _ _
end
theorem pick17 (vs : List Value) (h : 7 ≤ vs.length) : (slicePick vs.toArray (some 1) (some 7) none).toList = (vs.drop 1).take 6 := by
  have e1 : kms_lo (some 1) vs.length = 1 := by
    unfold kms_lo
    dsimp only
    rw [if_neg (by decide)]
    exact Nat.min_eq_left (Nat.le_trans (by decide) h)
  have e2 : kms_hi (some 7) vs.length = 7 := by
    unfold kms_hi
    dsimp only
    rw [if_neg (by decide)]
    exact Nat.min_eq_left h
  rw [kms_pick_eq]
  show (vs.drop (kms_lo (some 1) vs.length)).take (kms_hi (some 7) vs.length - kms_lo (some 1) vs.length) = _
  rw [e1, e2]
/- the names that stand in the row -/
noncomputable def namesOf (ns : List Int) : List Str := wordsS ++ (xsOf ns).map tagS
theorem tags_names (ns : List Int) : tagsOf ns = none :: (namesOf ns).map some := by
  unfold tagsOf namesOf
  rw [List.map_append, List.map_map]
  rfl
noncomputable def NameOk (n : Str) : Prop := (∃ i, i < 6 ∧ n = wd i) ∨ ∃ a b i j, i < 6 ∧ j < 6 ∧ n = tagB a b i j
theorem names_ok {ns : List Int} {n : Str} (h : n ∈ namesOf ns) : NameOk n := by
  rcases List.mem_append.mp h with h | h
  · obtain ⟨i, hi, rfl⟩ := words_idx h
    exact .inl ⟨i, hi, rfl⟩
  · obtain ⟨x, _, rfl⟩ := List.mem_map.mp h
    exact .inr ⟨_, _, _, _, srcI_lt x, tgtI_lt x, tagS_eq x⟩
theorem names_len (ns : List Int) : (namesOf ns).length ≤ 22 := by
  unfold namesOf
  rw [List.length_append, List.length_map]
  have := xsOf_len ns
  have : wordsS.length = 6 := rfl
  omega
noncomputable def has233 (n : Str) : Bool := !(Builtin.Str.occurrences n ⟨#[233]⟩ 0 n.length 1).isEmpty
theorem has_word : ∀ i, i < 6 → has233 (wd i) = false := by decide +kernel
theorem has_tag : ∀ i, i < 6 → ∀ j, j < 6 → ∀ a b : Bool, has233 (tagB a b i j) = (a || b) := by decide +kernel
theorem NameOk.facts {n : Str} (h : NameOk n) : startsPlain n = true ∧ n.cps.size < 1000 ∧ has233 n = !(plainS n) := by
  rcases h with ⟨i, hi, rfl⟩ | ⟨a, b, i, j, hi, hj, rfl⟩
  · obtain ⟨p1, p2, p3, _⟩ := plain_word i hi
    exact ⟨p2, Nat.lt_trans p3 (by decide), by rw [has_word i hi, p1]; rfl⟩
  · obtain ⟨p1, p2, p3⟩ := plain_tag i hi j hj a b
    refine ⟨p2, Nat.lt_trans p3 (by decide), ?_⟩
    rw [has_tag i hi j hj a b, p1]
    cases a <;> cases b <;> rfl
theorem plain_all {n : Str} (h : plainS n = true) : n.cps.all (· < 128) = true := by
  unfold plainS at h
  rw [Array.all_toList] at h
  exact h
theorem OV.alike {u v : Value} {n : Str} (h1 : OV u n) (h2 : OV v n) : MeetsSeq.EqGives u v true := by
  unfold OV at h1 h2
  split at h1
  · rename_i q
    rw [if_pos q] at h2
    obtain ⟨t, rfl⟩ := h1
    obtain ⟨t', rfl⟩ := h2
    have := eqg_bytes (octs n) (octs n) t t'
    rwa [decide_eq_true rfl] at this
  · rename_i q
    rw [if_neg q] at h2
    obtain ⟨t, rfl⟩ := h1
    obtain ⟨t', rfl⟩ := h2
    have := PySem.SeqRoads2.EqGives.str refusal refusal t t'
    rwa [beq_self_eq_true] at this
theorem SV.alike {u v : Value} {n : Str} (h1 : SV u n) (h2 : SV v n) : MeetsSeq.EqGives u v true := by
  obtain ⟨t, rfl⟩ := h1
  obtain ⟨t', rfl⟩ := h2
  have := PySem.SeqRoads2.EqGives.str n n t t'
  rwa [beq_self_eq_true] at this
theorem OVN.alike {u v : Value} {o : Option Nat} (h1 : OVN u o) (h2 : OVN v o) : MeetsSeq.EqGives u v true ∨ u = .none ∧ v = .none := by
  cases o with
  | none => exact .inr ⟨h1, h2⟩
  | some m =>
    obtain ⟨t, rfl⟩ := h1
    obtain ⟨t', rfl⟩ := h2
    have := MeetsSeq.EqGives.int (m : Int) (m : Int) t t'
    rw [beq_self_eq_true] at this
    exact .inl this
theorem IVN.alike {u v : Value} {m : Nat} (h1 : IVN u m) (h2 : IVN v m) : MeetsSeq.EqGives u v true := by
  obtain ⟨t, rfl⟩ := h1
  obtain ⟨t', rfl⟩ := h2
  have := MeetsSeq.EqGives.int (m : Int) (m : Int) t t'
  rwa [beq_self_eq_true] at this
/- {*}* finds all that has a name, {}* the places -/
theorem sel_all {rt : List (Value × Value)} {ns : List Int} (r : RT rt ns) : All2 (fun v x => ∃ u, (v, Value.str x u) ∈ rt) (sel isStr rt) (namesOf ns) := by
  have a := rt_sel r (pass := isStr) (f := fun _ => true) rfl fun x u => rfl
  have e1 : wordsS.filter (fun _ => true) = wordsS := List.filter_eq_self.mpr fun _ _ => rfl
  have e2 : (xsOf ns).filter (fun x => (fun _ : Str => true) (tagS x)) = xsOf ns := List.filter_eq_self.mpr fun _ _ => rfl
  rw [e1, e2] at a
  exact a
noncomputable def pass2S (x : Str) : Bool := match x.cps[0]? with | some c => ((⟨#[c]⟩ : Str).cps.toList != (Str.ofString "{").cps.toList) | none => false
theorem p2_words : wordsS.filter pass2S = wordsS := by decide +kernel
theorem p2_tag : ∀ i, i < 6 → ∀ j, j < 6 → ∀ a b : Bool, pass2S (tagB a b i j) = false := by decide +kernel
theorem sel_bare {rt : List (Value × Value)} {ns : List Int} (r : RT rt ns) : All2 (fun v x => ∃ u, (v, Value.str x u) ∈ rt) (sel pass2 rt) wordsS := by
  have a := rt_sel r (pass := pass2) (f := pass2S) rfl fun x u => rfl
  rw [p2_words, filter_none fun x _ => by rw [tagS_eq]; exact p2_tag _ (srcI_lt x) _ (tgtI_lt x) _ _, List.map_nil, List.append_nil] at a
  exact a
end Mine
end
section
open PySem PySem.W PyProof.Rows PySem.Calls PySem.Builtin
set_option maxHeartbeats 8000000
namespace Mine
/- the table, told by who stands first -/
theorem valueAt_stored (kvs : List (Int × Value)) (k x : Int) (v : Value) : valueAt (stored kvs k v) x = if x = k then some v else valueAt kvs x := by
  unfold stored
  by_cases h : kvs.any (fun kv => decide (kv.1 = k)) = true
  · rw [if_pos h]
    unfold valueAt
    rw [List.find?_map]
    have e : ((fun kv : Int × Value => decide (kv.1 = x)) ∘ fun kv => if kv.1 = k then (kv.1, v) else kv) = fun kv => decide (kv.1 = x) := by
      funext kv
      show decide ((if kv.1 = k then (kv.1, v) else kv).1 = x) = _
      split <;> rfl
    rw [e]
    by_cases q : x = k
    · subst q
      rw [if_pos rfl]
      cases hf : kvs.find? fun kv => decide (kv.1 = x) with
      | none =>
        obtain ⟨kv, hkv, he⟩ := List.any_eq_true.mp h
        exact absurd he (by simpa using List.find?_eq_none.mp hf kv hkv)
      | some kv =>
        have := List.find?_some hf
        have hk : kv.1 = x := of_decide_eq_true this
        show some (if kv.1 = x then (kv.1, v) else kv).2 = some v
        rw [if_pos hk]
    · rw [if_neg q]
      cases hf : kvs.find? fun kv => decide (kv.1 = x) with
      | none => rfl
      | some kv =>
        have := List.find?_some hf
        have hk : kv.1 = x := of_decide_eq_true this
        show some (if kv.1 = k then (kv.1, v) else kv).2 = some kv.2
        rw [if_neg (by rw [hk]; exact q)]
  · rw [if_neg h]
    unfold valueAt
    rw [List.find?_append]
    by_cases q : x = k
    · subst q
      rw [if_pos rfl]
      have hf : kvs.find? (fun kv => decide (kv.1 = x)) = none := List.find?_eq_none.mpr fun kv hkv he => h (List.any_eq_true.mpr ⟨kv, hkv, he⟩)
      rw [hf]
      simp
    · rw [if_neg q]
      have : [(k, v)].find? (fun kv => decide (kv.1 = x)) = none := by
        rw [List.find?_eq_none]; intro kv hkv
        rw [List.mem_singleton.mp hkv]
        simpa using fun z => q z.symm
      rw [this, Option.or_none]
theorem valueAt_row (a : Addr) (x : Int) : ∀ (ks : List Nat) (t : List (Int × Value)), valueAt (rowT a t ks) x = if ks.any (fun k => decide ((k : Int) = x)) = true then some (.ref a) else valueAt t x
  | [], t => rfl
  | k :: ks, t => by
    show valueAt (rowT a (stored t (k : Int) (.ref a)) ks) x = _
    rw [valueAt_row a x ks, valueAt_stored, List.any_cons]
    by_cases h : ks.any (fun k => decide ((k : Int) = x)) = true
    · rw [if_pos h, h, Bool.or_true, if_pos rfl]
    · rw [if_neg h]
      by_cases q : x = (k : Int)
      · rw [if_pos q, decide_eq_true q.symm, Bool.true_or, if_pos rfl]
      · rw [if_neg q, decide_eq_false (fun z => q z.symm), Bool.false_or, if_neg h]
theorem valueAt_tab (x : Int) : ∀ l : List (Addr × List Nat), valueAt (tabF l.reverse) x = (l.find? fun p => p.2.any fun k => decide ((k : Int) = x)).map fun p => .ref p.1
  | [] => rfl
  | p :: l => by
    have ih := valueAt_tab x l
    unfold tabF at ih ⊢
    rw [List.reverse_cons, List.foldl_append]
    show valueAt (rowT p.1 (l.reverse.foldl (fun t p => rowT p.1 t p.2) []) p.2) x = _
    rw [valueAt_row, List.find?_cons]
    by_cases h : p.2.any (fun k => decide ((k : Int) = x)) = true
    · rw [if_pos h, h]; rfl
    · rw [if_neg h, Bool.eq_false_iff.mpr h, ih]
theorem mem_keys {kvs : List (Int × Value)} {x : Int} : x ∈ kvs.map (·.1) ↔ ∃ v, valueAt kvs x = some v := by
  unfold valueAt
  constructor
  · intro h
    obtain ⟨kv, hkv, rfl⟩ := List.mem_map.mp h
    cases hf : kvs.find? fun z => decide (z.1 = kv.1) with
    | none => exact absurd (List.find?_eq_none.mp hf kv hkv) (by simp)
    | some z => exact ⟨z.2, rfl⟩
  · rintro ⟨v, h⟩
    cases hf : kvs.find? fun z => decide (z.1 = x) with
    | none => rw [hf] at h; cases h
    | some z =>
      have h1 := List.find?_some hf
      exact List.mem_map.mpr ⟨z, List.mem_of_find?_eq_some hf, of_decide_eq_true h1⟩
/- the families, laid for get_parent_map -/
noncomputable def famL (fa : Nat → Addr) (st : St) : List (Addr × List Nat) := st.order.map fun k => (fa k, st.fam k)
theorem tab_at (fa : Nat → Addr) (st : St) (e : Nat) : valueAt (tabF (famL fa st).reverse) (e : Int) = (st.order.find? fun k => decide (e ∈ st.fam k)).map fun k => .ref (fa k) := by
  rw [valueAt_tab]
  unfold famL
  rw [List.find?_map, Option.map_map]
  have : ((fun p : Addr × List Nat => p.2.any fun k => decide ((k : Int) = (e : Int))) ∘ fun k => (fa k, st.fam k)) = fun k => decide (e ∈ st.fam k) := by
    funext k
    show ((st.fam k).any fun j => decide ((j : Int) = (e : Int))) = _
    rw [Bool.eq_iff_iff, List.any_eq_true, decide_eq_true_iff]
    constructor
    · rintro ⟨j, hj, h⟩
      have : j = e := Int.ofNat_inj.mp (of_decide_eq_true h)
      exact this ▸ hj
    · intro h; exact ⟨e, h, decide_eq_true rfl⟩
  rw [this]
  rfl
theorem Inv.settledKey {A : Nat → List Nat} {n : Nat} {st : St} (I : Inv A n st) (fa : Nat → Addr) (x : Int) : x ∈ (tabF (famL fa st).reverse).map (·.1) ↔ ∃ k : Nat, x = (k : Int) ∧ ∃ m, st.rounds k = some m := by
  rw [mem_keys, valueAt_tab]
  constructor
  · rintro ⟨v, h⟩
    cases hf : (famL fa st).find? fun p => p.2.any fun k => decide ((k : Int) = x) with
    | none => rw [hf] at h; cases h
    | some p =>
      have h1 := List.find?_some hf
      have h2 := List.mem_of_find?_eq_some hf
      unfold famL at h2
      obtain ⟨s, hs, rfl⟩ := List.mem_map.mp h2
      obtain ⟨k, hk, e⟩ := List.any_eq_true.mp h1
      refine ⟨k, (of_decide_eq_true e).symm, ?_⟩
      by_cases q : k = s
      · subst q; exact (I.o1 k).mp hs
      · obtain ⟨m, a, _⟩ := I.t1 s k hk q
        exact ⟨_, a⟩
  · rintro ⟨k, rfl, m, h⟩
    have hk : k ∈ st.order := (I.o1 k).mpr ⟨m, h⟩
    obtain ⟨t, ht⟩ := I.t3 k
    cases hf : (famL fa st).find? fun p => p.2.any fun j => decide ((j : Int) = (k : Int)) with
    | none =>
      have h1 := List.find?_eq_none.mp hf (fa k, st.fam k) (List.mem_map.mpr ⟨k, hk, rfl⟩)
      exact absurd (List.any_eq_true.mpr ⟨k, by rw [ht]; exact .head _, decide_eq_true rfl⟩) h1
    | some p => exact ⟨_, rfl⟩
/- who settled it stands before it -/
theorem Inv.parent {A : Nat → List Nat} {n : Nat} {st : St} (I : Inv A n st) {e m : Nat} (he : st.rounds e = some (m + 1)) : ∃ s, (st.order.find? fun k => decide (e ∈ st.fam k)) = some s ∧ s ∈ A e ∧ st.rounds s = some m ∧ s < n := by
  have heo : e ∈ st.order := (I.o1 e).mpr ⟨_, he⟩
  obtain ⟨t, ht⟩ := I.t3 e
  have hee : e ∈ st.fam e := by rw [ht]; exact .head _
  cases hf : st.order.find? fun k => decide (e ∈ st.fam k) with
  | none => exact absurd (decide_eq_true hee) (List.find?_eq_none.mp hf e heo)
  | some s =>
    obtain ⟨hp, as, bs, ho, hno⟩ := List.find?_eq_some_iff_append.mp hf
    have hes : e ∈ st.fam s := of_decide_eq_true hp
    by_cases q : e = s
    · subst q
      exfalso
      obtain ⟨s', hs', h1, h2⟩ := I.t2 e m he
      obtain ⟨m', e1, e2, e3⟩ := I.t1 s' e h1 h2
      rw [he] at e1
      have hm : m = m' := by have := Option.some.inj e1; omega
      subst hm
      have hso : s' ∈ st.order := (I.o1 s').mpr ⟨_, e2⟩
      have hsb : s' ∈ bs := by
        rw [ho] at hso
        rcases List.mem_append.mp hso with z | z
        · have := hno s' z
          rw [decide_eq_true h1] at this
          cases this
        · rcases List.mem_cons.mp z with z | z
          · exact absurd z.symm h2
          · exact z
      have hpw := I.o2
      rw [ho, List.pairwise_append] at hpw
      have := (List.pairwise_cons.mp hpw.2.1).1 s' hsb (m + 1) m he e2
      omega
    · obtain ⟨m', e1, e2, e3⟩ := I.t1 s e hes q
      rw [he] at e1
      have hm : m = m' := by have := Option.some.inj e1; omega
      subst hm
      exact ⟨s, rfl, e3, e2, I.rl s m e2⟩
theorem Inv.zero {A : Nat → List Nat} {n : Nat} {st : St} (I : Inv A n st) {e : Nat} (he : st.rounds e = some 0) : A e = [] := by
  have d := (I.i1 e 0 he).2
  unfold cnd at d
  rw [if_neg (by decide)] at d
  cases h : A e with
  | nil => rfl
  | cons j js =>
    obtain ⟨m, hm, _⟩ := d j (by rw [h]; exact .head _)
    cases hm
/- the keys in order -/
noncomputable def askedL (A : Nat → List Nat) : List Nat := (List.range 6).filter fun k => (told A 6 k).isSome
theorem keys_sorted {A : Nat → List Nat} {st : St} (I : Inv A 6 st) (hd : ∀ k, k < 6 → st.rounds k = told A 6 k) (fa : Nat → Addr) {ns : List Int} (hp : ns.Perm ((tabF (famL fa st).reverse).map (·.1))) (hs : ns.Pairwise (· ≤ ·)) (hn : ((tabF (famL fa st).reverse).map (·.1)).Nodup) :
    ns = (askedL A).map fun (k : Nat) => (k : Int) := by
  refine ksm_same ?_ hs ?_
  · refine hp.trans ((List.perm_ext_iff_of_nodup hn ?_).mpr fun x => ?_)
    · refine List.Pairwise.map _ (R := fun a b : Nat => a ≠ b) (fun a b h z => h (Int.ofNat_inj.mp z)) ?_
      exact List.Pairwise.filter _ List.nodup_range
    · rw [I.settledKey fa x, List.mem_map]
      unfold askedL
      constructor
      · rintro ⟨k, rfl, m, h⟩
        have hk := I.rl k m h
        exact ⟨k, List.mem_filter.mpr ⟨List.mem_range.mpr hk, by rw [← hd k hk, h]; rfl⟩, rfl⟩
      · rintro ⟨k, hk, rfl⟩
        obtain ⟨h1, h2⟩ := List.mem_filter.mp hk
        obtain ⟨m, hm⟩ := Option.isSome_iff_exists.mp h2
        exact ⟨k, rfl, m, (hd k (List.mem_range.mp h1)).trans hm⟩
  · refine List.Pairwise.map _ (R := fun a b : Nat => a < b) (fun a b h => Int.ofNat_le.mpr (Nat.le_of_lt h)) ?_
    exact List.Pairwise.filter _ List.pairwise_lt_range
end Mine
end
section
open PySem PySem.W PyProof.Rows PySem.Calls PySem.Builtin
set_option maxHeartbeats 8000000
namespace Mine
variable [Bs]
noncomputable abbrev qE : Str := Str.ofString "_law_element.<locals>.<lambda>"
/- the row, as far as it is laid -/
noncomputable def RowR (i : Nat) (vs us : List Value) (lo : Nat) (h : Heap) : Prop := Tab h 70 66 qE ∧ us.length = i ∧ ∀ (n : Nat) u, us[n]? = some u → ∃ tv, vs[n]? = some tv ∧ ∃ hi, El h lo hi u tv
theorem El.top {h : Heap} {lo hi : Nat} {v t : Value} (x : El h lo hi v t) : El h lo h.objs.size v t := by
  obtain ⟨f, fd, rfl, h1, h2, F, g⟩ := x
  obtain ⟨o, ho, _, _, y⟩ := id F
  refine ⟨f, fd, rfl, h1, Heap.lt_size ho, F, fun o' d a b => ⟨(g o' d a b).1, ?_⟩⟩
  rw [ho] at a; cases a
  rcases y with ⟨y, _⟩ | ⟨d', y, _, _, z⟩
  · rw [y] at b; cases b
  · rw [y] at b; cases b; exact z.lt
theorem RowR.st {b i : Nat} {vs us : List Value} {lo : Nat} {h h' : Heap} (hb : b < lo) (h114 : 114 < b) (nc : NC h b) (x : Ext (At b) h h') (r : RowR i vs us lo h) : RowR i vs us lo h' := by
  obtain ⟨T, l, f⟩ := r
  refine ⟨T.ext x (by decide) (by decide) fun c q => .inr ⟨by rw [show c = b from q]; exact h114, by rw [show c = b from q]; exact nc⟩, l, fun n u hu => ?_⟩
  obtain ⟨tv, e, hi, el⟩ := f n u hu
  exact ⟨tv, e, hi, el.ext x fun c hc _ q => by rw [show c = b from q] at hc; exact absurd hb (Nat.not_lt.mpr hc)⟩
theorem okt_of {ns : List Int} {o : Option Str} {t : Value} (ho : o ∈ tagsOf ns) (h : TV t o) : Okt t := by
  cases o with
  | none => exact .inl h
  | some x =>
    obtain ⟨u, rfl⟩ := h
    rw [tags_names] at ho
    have hx : x ∈ namesOf ns := by
      rcases List.mem_cons.mp ho with q | q
      · cases q
      · obtain ⟨y, hy, e⟩ := List.mem_map.mp q
        cases e; exact hy
    obtain ⟨p1, p2, _⟩ := (names_ok hx).facts
    refine .inr ⟨x, u, rfl, ?_, p2⟩
    unfold startsPlain at p1
    show 0 < x.cps.size
    obtain ⟨⟨l⟩⟩ := x
    cases l with
    | nil => cases p1
    | cons a l => exact Nat.succ_pos _
/- what law may change, seen from its start -/
noncomputable abbrev Zx (n : Nat) : Addr → Prop := fun b => n ≤ b ∨ Tb b
theorem Gd.z {w : World} {mg mb : Str → Option Value} {h h' : Heap} {n : Nat} (G : Gd w mg mb h) (x : Ext (Zx n) h h') (hn : 114 < n) : Gd w mg mb h' := G.ext x fun b q => by
  rcases q with q | q
  · exact .inl (Nat.lt_of_lt_of_le hn q)
  · exact .inr q
/- what stays while law goes on -/
structure LBd (w : World) (S lo : Nat) (h0 : Heap) (D Nm Wl : Addr) (rt : List (Value × Value)) (nv wv : List Value) (h : Heap) : Prop where
  y : Ext (Zx S) h0 h
  t1 : Tab h 27 23 selQ
  t2 : Tab h 70 66 qE
  t3 : Tab h 77 73 qC
  el : ∀ v t, (v, t) ∈ rt → El h lo h.objs.size v t ∧ Okt t
  lr : Ls h D (rt.map (·.1))
  ln : Ls h Nm nv
  lw : Ls h Wl wv
  p : 114 < S ∧ S + 2 < lo ∧ S + 2 < D ∧ S + 2 < Nm ∧ S + 2 < Wl
section
variable {w : World} {S lo : Nat} {h0 h h' : Heap} {D Nm Wl : Addr} {rt : List (Value × Value)} {nv wv : List Value} {X : Addr → Prop}
theorem LBd.ext (K : LBd w S lo h0 D Nm Wl rt nv wv h) (x : Ext X h h') (n1 : ∀ b, S + 2 < b → ¬ X b) (z : ∀ b, X b → Zx S b) (t1 : Tab h' 27 23 selQ) (t2 : Tab h' 70 66 qE) (t3 : Tab h' 77 73 qC) : LBd w S lo h0 D Nm Wl rt nv wv h' where
  y := K.y.up x z
  t1 := t1
  t2 := t2
  t3 := t3
  el := fun v t m => ⟨((K.el v t m).1.ext x fun b hb _ => n1 b (Nat.lt_of_lt_of_le K.p.2.1 hb)).top, (K.el v t m).2⟩
  lr := K.lr.ext x (n1 _ K.p.2.2.1)
  ln := K.ln.ext x (n1 _ K.p.2.2.2.1)
  lw := K.lw.ext x (n1 _ K.p.2.2.2.2)
  p := K.p
theorem LBd.own (K : LBd w S lo h0 D Nm Wl rt nv wv h) (x : Ext X h h') (hX : ∀ b, X b → S ≤ b ∧ b ≤ S + 2 ∧ NC h b) : LBd w S lo h0 D Nm Wl rt nv wv h' := by
  have q : ∀ {P : Addr} b, X b → (Tb b ∧ b ≠ P) ∨ (Hi b ∧ NC h b) := fun b z => .inr ⟨Nat.lt_of_lt_of_le K.p.1 (hX b z).1, (hX b z).2.2⟩
  exact K.ext x (fun b hb z => absurd (hX b z).2.1 (Nat.not_le.mpr hb)) (fun b z => .inl (hX b z).1) (K.t1.ext x (by decide) (by decide) q) (K.t2.ext x (by decide) (by decide) q) (K.t3.ext x (by decide) (by decide) q)
theorem LBd.non (K : LBd w S lo h0 D Nm Wl rt nv wv h) (x : Ext Non h h') : LBd w S lo h0 D Nm Wl rt nv wv h' := K.own x fun _ q => q.elim
theorem LBd.t23 (K : LBd w S lo h0 D Nm Wl rt nv wv h) (x : Ext (At 23) h h') (t : Tab h' 27 23 selQ) : LBd w S lo h0 D Nm Wl rt nv wv h' := by
  have q : ∀ {P : Addr}, P ≠ 23 → ∀ b, At 23 b → (Tb b ∧ b ≠ P) ∨ (Hi b ∧ NC h b) := fun hP b z => .inl ⟨.inl z, by rw [show b = 23 from z]; exact Ne.symm hP⟩
  exact K.ext x (fun b hb z => by rw [show b = 23 from z] at hb; exact absurd (Nat.lt_of_le_of_lt (Nat.le_add_right S 2) hb) (Nat.not_lt.mpr (Nat.le_trans (by decide) (Nat.le_of_lt K.p.1)))) (fun b z => .inr (.inl z)) t (K.t2.ext x (by decide) (by decide) (q (by decide))) (K.t3.ext x (by decide) (by decide) (q (by decide)))
end
section
variable {w : World} {A : Around} {E : Value → Shared → Prop} {s : Shared} {env : Env} {mg mb : Str → Option Value}
theorem boot_sorted : bootBuiltins (Str.ofString "sorted") = some (.builtin "sorted") := by kernel_rfl
theorem nsIn_sorted (p : Params) : nsIn (heapK p) mainGlobals (Str.ofString "sorted") = some none := by kernel_rfl
inductive Srt1 [Bs] (v : Value) (w : World) (s₁ : Shared) (Q : Value → Shared → Prop) : Prop
  | mk (d : _) (kvs : _) (e0 : v = .ref d) (e1 : DW w s₁.heap d kvs) (e2 : kvs.length < 60) (e3 : (d == sysModules) = false) (e4 : ∀ D h' tk vs ns, s₁.heap.objs.size ≤ D → Ls h' D vs → IntsAre vs ns → ns.Perm (kvs.map (·.1)) → ns.Pairwise (· ≤ ·) → Ext Non s₁.heap h' → Q (.ref D) { s₁ with heap := h', toks := tk }) : Srt1 v w s₁ Q
theorem sorted_ {e : Expr} {p pos : Pos} {Q : Value → Shared → Prop} (G : Gd w mg mb s.heap) (hh : A.handled = none)
    (h : wpAny (model PG w) A (eval e env) (fun v s₁ => Srt1 v w s₁ Q) E s)
    (hk : env.scope.kind = .function := by rfl) (hl : env.kindOf (Str.ofString "sorted") = some .globalImplicit := by rfl) (hg : env.globals = mainGlobals := by rfl) (hb : env.builtins = builtinsNs := by rfl)
    (he : starEach [e] env = [(false, eval e env)] := by rfl) (hc : eval (.Call (.Name (Str.ofString "sorted") p) [e] [] pos) env = (do callWith pos (← eval (.Name (Str.ofString "sorted") p) env) [] (backTo pos (starEach [e] env)) (backToKw pos (keywordEach [] env))) := by rfl) :
    wpAny (model PG w) A (eval (.Call (.Name (Str.ofString "sorted") p) [e] [] pos) env) Q E s := by
  refine Call_ (Gd.built G (nsIn_sorted _) boot_sorted (callWith_builtin1 (args_cons (wpAny_mono h (fun v s₁ h₁ => ?_) fun _ _ x => x) he) he) (by decide) hk hl hg hb) hc
  obtain ⟨d, kvs, rfl, x, hlen, lo, hq⟩ := h₁
  exact args_nil (sortedDW hh lo x hlen hq)
inductive CtR [Bs] (v : Value) (s₁ : Shared) (RR : Nat → List Value → Prop) (x : Str) (w : World) (A : Around) (ifs : List Expr) (scope : Scope) (cl : List (Str × Addr)) (env : Env) (elt : Expr) (Q : Value → Shared → Prop) : Prop
  | mk (r : Addr) (N : Nat) (t u z : Tok) (e0 : v = .ref r) (e1 : IsRange s₁.heap r 0 (N : Nat) 1 t u z) (e2 : N < 1000) (e3 : (∀ (C : Addr) (i : Nat) t ys h tk mm, i < N → RR i ys → Ext Non s₁.heap h → s₁.heap.objs.size ≤ C → h.Ns C mm → mm x = some (.int (i : Nat) t) →         wpAny (model PG w) A (tests ifs (compEnvC scope cl C env)) (fun ok s₄ => T4 w A elt scope cl C env s₁ h RR i ys ok s₄) NoE { s₁ with heap := h, toks := tk })) (e4 : (∀ D h' tk us, s₁.heap.objs.size ≤ D → Ext Non s₁.heap h' → Ls h' D us → RR N us → Q (.ref D) { s₁ with heap := h', toks := tk })) : CtR v s₁ RR x w A ifs scope cl env elt Q
theorem compTR {elt iter : Expr} {x : Str} {px : Pos} {ifs : List Expr} {scope : Scope} {cl : List (Str × Addr)} {pos : Pos} {Q : Value → Shared → Prop} (RR : Nat → List Value → Prop)
    (hclos : closureFor scope env = pure cl) (hcell : ∀ y ∈ scope.names, y.2 ≠ .cell) (hkind : scope.kind = .function) (hnames : ∀ y ∈ scope.names, y.2 = .local → scope.names.lookup y.1 = some .local) (hx : scope.names.lookup x = some .local)
    (hh : A.handled = none) (h0 : RR 0 [])
    (h : wpAny (model PG w) A (eval iter env) (fun v s₁ => CtR v s₁ RR x w A ifs scope cl env elt Q) E s)
    (hs : ∀ x, foldedSetIterable iter env x = pure x := by intro _; rfl) :
    wpAny (model PG w) A (eval (.ListComp elt [⟨.Name x px, iter, ifs, 0⟩] scope pos) env) Q E s := by
  refine comp_ hclos hcell hkind hnames hx ?_ hs
  refine wpAny_mono h (fun v s₁ h => ?_) fun _ _ q => q
  obtain ⟨r, N, t, u, z, rfl, IR, hN, step, hfin⟩ := h
  have e : Builtin.Range.rangeSize 0 (N : Nat) 1 = (N : Int) := by rw [rangeSize_one]; split <;> omega
  refine wpAny_pyIter_range IR (small_one (by omega) (by omega) (by omega) (by omega)) ?_
  rw [e]
  have x₂ : Ext Non s₁.heap (s₁.heap.push { cls := .type "range_iterator", data := .fields #[rawInt 0, rawInt (N : Nat), rawInt 1] }) := Ext.push _ _ _
  have hit : IsRangeIter (s₁.heap.push { cls := .type "range_iterator", data := .fields #[rawInt 0, rawInt (N : Nat), rawInt 1] }) s₁.heap.objs.size 0 (N : Nat) 1 := Heap.get?_push_size _ rfl
  have hsz : (s₁.heap.push { cls := .type "range_iterator", data := .fields #[rawInt 0, rawInt (N : Nat), rawInt 1] }).objs.size = s₁.heap.objs.size + 1 := Heap.size_push ..
  generalize s₁.heap.push { cls := .type "range_iterator", data := .fields #[rawInt 0, rawInt (N : Nat), rawInt 1] } = h₂ at x₂ hit hsz ⊢
  refine ⟨_, _, _, rangeFeed (s := { s₁ with heap := h₂ }) hh hit, by rw [List.length_map, List.length_range]; exact Nat.lt_trans hN (by decide), fun s' Q E x q => wpAny_pyIter_rangeiter (x.get hit id (.inr fun _ _ z => nomatch z)) q, fun C D hC hD hDC hDs hCs => ?_⟩
  have hDs' : D = s₁.heap.objs.size + 1 := by rw [hDs]; exact hsz
  have hCs' : C = s₁.heap.objs.size + 1 + 1 := by rw [hCs]; show h₂.objs.size + 1 = _; rw [hsz]
  have nID : s₁.heap.objs.size ≠ D := by rw [hDs']; exact Nat.ne_of_lt (Nat.lt_succ_self _)
  have nIC : s₁.heap.objs.size ≠ C := by rw [hCs']; exact Nat.ne_of_lt (Nat.lt_succ_of_lt (Nat.lt_succ_self _))
  have hh0 : ∀ {h : Heap}, Ext (fun b => b = s₁.heap.objs.size) h₂ h → Ext Non s₁.heap h := fun e => x₂.st e (Nat.le_refl _)
  refine compOkT (s₂ := { s₁ with heap := h₂ }) (I := s₁.heap.objs.size) RR (by show s₁.heap.objs.size < h₂.objs.size; rw [hsz]; exact Nat.lt_succ_self _) hDs hCs (fun s s' e => e.mono fun b q => ?_) h0 (fun i p v ys h tk mm hp hy hr e hsz' nC mx => ?_) (fun ys h9 tk e LD hr mC => ?_) (by rw [List.length_map, List.length_range]; exact Nat.lt_trans hN (by decide))
  · rcases q with q | q <;> obtain rfl := q.symm
    · exact Ne.symm nIC
    · exact Ne.symm nID
  · obtain ⟨hi, t, rfl⟩ : i < N ∧ ∃ t, v = .int (i : Nat) t := by
      rw [List.getElem?_map] at hp
      cases e : (List.range N)[i]? with
      | none => rw [e] at hp; cases hp
      | some j =>
        rw [e] at hp
        have := Option.some.inj hp
        rw [← this] at hy
        obtain ⟨t, q⟩ := hy
        obtain ⟨e1, e2⟩ := rangeAt e
        exact ⟨e2, t, by rw [q, e1]⟩
    exact wpAny_mono (step C i t ys h tk mm hi hr (hh0 e) (by rw [hCs']; exact Nat.le_succ_of_le (Nat.le_succ _)) nC mx) (fun _ _ q => q.at h₂) fun _ _ q => q
  · have e0 := hh0 e
    rw [List.length_map, List.length_range] at hr
    intro h' hsb
    have e' : Ext (At C) h9 h' := Ext.sameBut hsb rfl
    exact hfin D h' _ ys (by rw [hDs']; exact Nat.le_succ _) (e0.st e' (by rw [hCs']; exact Nat.le_succ_of_le (Nat.le_succ _))) (LD.ext e' hDC) hr
/- k not in l, l a list of numbers that has it -/
theorem inThere {l : Addr} {ks : List Nat} {k : Nat} {t : Tok} {Q : Value → Shared → Prop} (L : LN s.heap l ks) (hm : k ∈ ks) (h : Q (.bool false) s) : wpAny (model PG w) A (compareOp .NotIn (.int (k : Nat) t) (.ref l)) Q E s := by
  obtain ⟨vs, L, a⟩ := L
  refine PySem.SeqAt.notIn_listAt (fun v => match v with | .int n _ => n == (k : Int) | _ => false) L.isList (fun y hy => ?_) ?_
  · obtain ⟨i, hi, rfl⟩ := List.mem_iff_getElem.mp (show y ∈ vs by simpa using hy)
    obtain ⟨n, hn, u, e⟩ := a.at' (List.getElem?_eq_getElem hi)
    rw [e]
    exact MeetsSeq.EqGives.at (MeetsSeq.EqGives.int _ _ _ _) _ _
  · have : (vs.toArray.any fun v => match v with | .int n _ => n == (k : Int) | _ => false) = true := by
      obtain ⟨i, hi⟩ := List.mem_iff_getElem?.mp hm
      obtain ⟨v, hv, u, rfl⟩ := a.at hi
      rw [List.any_toArray]
      exact List.any_eq_true.mpr ⟨_, List.mem_of_getElem? hv, by simp⟩
    rw [this]; exact h
end
theorem sumLe {m : Nat} : ∀ l : List (Addr × List Nat), (∀ p ∈ l, p.2.length ≤ m) → (l.map fun p => p.2.length).sum ≤ l.length * m
  | [], _ => Nat.zero_le _
  | p :: l, h => by
    rw [List.map_cons, List.sum_cons, List.length_cons, Nat.succ_mul]
    have := sumLe l fun q hq => h q (List.mem_cons_of_mem _ hq)
    have := h p (.head _)
    omega
theorem ints2 : ∀ (vs : List Value) (ks : List Nat), IntsAre vs (ks.map fun (k : Nat) => (k : Int)) → All2 IVN vs ks
  | [], [], _ => .nil
  | [], _ :: _, h => nomatch h
  | _ :: _, [], h => nomatch h
  | v :: vs, k :: ks, h => by
    rw [List.map_cons] at h
    cases h with
    | cons n t h' => exact .cons ⟨t, rfl⟩ (ints2 vs ks h')
inductive LawP [Bs] (r : Result) (s' : Shared) (s : Shared) : Prop
  | mk (h' : _) (gs : _) (tk : _) (e0 : r = .ok (.ret (.bool true))) (e1 : s' = { s with heap := h', gens := gs, toks := tk }) (e2 : Ext Tb s.heap h') (e3 : Tab h' 27 23 selQ) (e4 : Tab h' 70 66 qE) (e5 : Tab h' 77 73 qC) (e6 : (AllBare s.gens → AllBare gs)) : LawP r s' s
inductive LwI [Bs] (s' : Shared) (s : Shared) (gs₁₇ : Array GenState) (h₂₇ : Heap) (d : Addr) (Ah : Addr) (I : Addr) : Prop
  | mk (h : _) (tk : _) (m : _) (e0 : s' = { s with heap := h, gens := gs₁₇, toks := tk }) (e1 : Ext (At s.heap.objs.size) h₂₇ h) (e2 : Loc h s.heap.objs.size m) (e3 : m.lookup (Str.ofString "table") = some (.ref d)) (e4 : m.lookup (Str.ofString "ahead") = some (.ref Ah)) (e5 : I ≤ h.objs.size) : LwI s' s gs₁₇ h₂₇ d Ah I
inductive LwJ [Bs] (s' : Shared) (s : Shared) (gs₁₇ : Array GenState) (h₀ : Heap) (h₂₇ : Heap) (d : Addr) (Ah : Addr) (j : Nat) (mk : Nat) (st : St) (I : Addr) : Prop
  | mk (h : _) (tk : _) (m : _) (p : _) (tp : _) (e0 : s' = { s with heap := h, gens := gs₁₇, toks := tk }) (e1 : Ext (At s.heap.objs.size) h₀ h) (e2 : Ext (At s.heap.objs.size) h₂₇ h) (e3 : Loc h s.heap.objs.size m) (e4 : m.lookup (Str.ofString "table") = some (.ref d)) (e5 : m.lookup (Str.ofString "ahead") = some (.ref Ah)) (e6 : m.lookup (Str.ofString "at") = some (.int (p : Nat) tp)) (e7 : p < 6) (e8 : j ≤ mk) (e9 : st.rounds p = some (mk - j)) (e10 : I ≤ h.objs.size) : LwJ s' s gs₁₇ h₀ h₂₇ d Ah j mk st I
theorem law_spec {w : World} {mg mb : Str → Option Value} {A : Around} {s : Shared} {sc : Addr} {vs : List Value} {ns : List Int} (G : Gd w mg mb s.heap) (R : Rm A 10) (hfr : A.frames = some []) (hs : 114 < s.heap.objs.size) (hbn : Bs.n ≤ s.heap.objs.size)
    (T1 : Tab s.heap 27 23 selQ) (T2 : Tab s.heap 70 66 qE) (T3 : Tab s.heap 77 73 qC) (hsc : s.heap.IsList sc vs.toArray) (hv : All2 IV vs ns) (hlen : ns.length < 100) :
    codeAny (model PG w) A (.call (.ref 114) ⟨[.ref sc], []⟩) (fun r s' => LawP r s' s) s := by
  refine call_cells_ret R.d (G.k 114 _ rfl) rfl G.lim (codeRec_of G.k rfl) rfl ?_ (fun h₁ tk F C => ?_)
  · intro x hx; rw [List.mem_singleton.mp hx]; exact .inl rfl
  refine hide fun Q0 hQ0 => ?_
  have F₁ : Loc h₁ s.heap.objs.size [(Str.ofString "script", .ref sc)] := by
    have q := F.ns
    change h₁.Ns s.heap.objs.size (fun n => if n = Str.ofString "script" then some (.ref sc) else none) at q
    have e : (fun n => if n = Str.ofString "script" then some (Value.ref sc) else none) = fun n => [(Str.ofString "script", Value.ref sc)].lookup n := by funext n; exact look1
    rw [e] at q
    exact q
  have cr₁ : h₁.IsCell (s.heap.objs.size + 1) none := C.cell (Str.ofString "refusal") (s.heap.objs.size + 1) rfl
  have ct₁ : h₁.IsCell (s.heap.objs.size + 2) none := C.cell toldN (s.heap.objs.size + 2) rfl
  have E₁ : Ext Non s.heap h₁ := Ext.of F.keep _
  clear F C
  have G₁ : Gd w mg mb h₁ := G.ext E₁ fun _ q => q.elim
  have R9 : ∀ env, Rm (A.deeper env) 9 := fun env => (R.deeper env).le (by decide)
  have R3 : ∀ env, Rm (A.deeper env) 3 := fun env => (R.deeper env).le (by decide)
  have R2 : ∀ env, Rm (A.deeper env) 2 := fun env => (R.deeper env).le (by decide)
  have S1 : s.heap.objs.size < h₁.objs.size := F₁.lt
  have c2S : s.heap.objs.size + 2 < h₁.objs.size := let ⟨_, ho, _⟩ := ct₁; Heap.lt_size ho
  have T1₁ := T1.non E₁ (by decide) (by decide)
  have T2₁ := T2.non E₁ (by decide) (by decide)
  have T3₁ := T3.non E₁ (by decide) (by decide)
  have ncL : ∀ {h : Heap} {m} {P : Addr}, Loc h s.heap.objs.size m → ∀ b, b = s.heap.objs.size → (Tb b ∧ b ≠ P) ∨ (Hi b ∧ NC h b) := fun F b q => .inr ⟨by rw [q]; exact hs, by rw [q]; exact .ns F⟩
  -- tags
  refine wpAny_execs_cons ?_
  refine wpAny_Assign_Name ?_
  refine callG (f := 92) G₁ (by kernel_rfl) rfl rfl ?_
  refine args_cons ?_
  refine Loc.name F₁ rfl ?_
  refine args_nil ?_
  refine ⟨G₁, useS (tags_spec (s := { s with heap := h₁, toks := _ }) G₁ (R3 _) (Nat.lt_trans hs S1) (isListExt hsc E₁ id) hv hlen) ?_⟩
  rintro r s' ⟨h₂, tk₂, T, ts, rfl, rfl, x₂, hT, LT, tv⟩ z₂
  refine ⟨_, rfl, ?_⟩
  have TS : s.heap.objs.size < T := Nat.lt_of_lt_of_le S1 hT
  have nL : ∀ b, s.heap.objs.size < b → b ≠ s.heap.objs.size := fun b hb => Ne.symm (Nat.ne_of_lt hb)
  refine Loc.storeZ (F₁.ext x₂ id) ?_
  intro h₃ F₃ x₃ z₃
  have LT₃ := LT.ext x₃ (nL _ TS)
  have e13 : Ext (At s.heap.objs.size) h₁ h₃ := (x₂.mono fun _ q => q.elim).trans x₃
  have E₃ : Ext Non s.heap h₃ := E₁.st e13 (Nat.le_refl _)
  have G₃ : Gd w mg mb h₃ := G.ext E₃ fun _ q => q.elim
  have T1₃ := T1₁.ext e13 (by decide) (by decide) (ncL F₁)
  have T2₃ := T2₁.ext e13 (by decide) (by decide) (ncL F₁)
  have T3₃ := T3₁.ext e13 (by decide) (by decide) (ncL F₁)
  have cr₃ := cellExt cr₁ e13 (Nat.succ_ne_self _)
  have ct₃ := cellExt ct₁ e13 (nL _ (Nat.lt_add_of_pos_right (by decide)))
  have S3 : h₁.objs.size ≤ h₃.objs.size := Nat.le_trans z₂ z₃
  have tsl : ts.length < 1000 := by
    rw [tv.1, tags_names, List.length_cons, List.length_map]
    exact Nat.lt_of_le_of_lt (Nat.succ_le_succ (names_len ns)) (by decide)
  clear x₂ x₃ LT T1₁ T2₁ T3₁ cr₁ ct₁
  -- row
  refine wpAny_execs_cons ?_
  refine AssignCompH (m := (Str.ofString "tags", .ref T) :: [(Str.ofString "script", .ref sc)]) (At 66) RowR (by rfl) rfl (by decide) rfl (by decide) rfl R.handled ?_
  refine Loc.name F₃ lkE ?_
  refine ⟨T, ts, rfl, LT₃, tsl, F₃, fun b q => ?_, fun h e => ⟨T2₃.non e (by decide) (by decide), rfl, fun n u hu => by simp at hu⟩, fun b i ys h h' hb1 hb2 nc x r => r.st hb2 (Nat.lt_of_lt_of_le (Nat.lt_trans hs F₃.lt) hb1) nc x, fun C i v ys h tk mm hv r e hC hsz nC mx => ?_, fun C D h₉ h' tk us mC hC hC3 hD r nC F₉ e₉ F₄ e₄ LD => ?_⟩
  · rw [show b = 66 from q]
    exact ⟨Nat.lt_trans (Nat.lt_trans (by decide) hs) F₃.lt, Nat.ne_of_lt (Nat.lt_trans (Nat.lt_trans (by decide) hs) TS), Nat.ne_of_lt (Nat.lt_trans (by decide) hs)⟩
  · have Gh : Gd w mg mb h := G₃.ext e fun b q => .inr (.inr (.inl q))
    have sh : 114 < h.objs.size := Nat.lt_of_lt_of_le (Nat.lt_trans hs F₃.lt) (Nat.le_trans (Nat.le_add_right _ _) hsz)
    obtain ⟨Th, hl, hf⟩ := r
    refine callG (env := compEnvC _ _ C _) (f := 71) Gh (by kernel_rfl) rfl rfl ?_
    refine args_cons ?_
    refine nsName nC mx ?_
    refine args_nil ?_
    refine ⟨Gh, useS (element_spec (s := { s with heap := h, toks := tk }) (t := v) Gh (R2 _) sh Th) ?_⟩
    rintro r s' ⟨h₅, tk₅, u, rfl, rfl, x₅, T₅, el⟩ z₅
    refine ⟨_, rfl, h₅, tk₅, rfl, x₅, T₅, by rw [List.length_append, hl]; rfl, fun n u' hu => ?_⟩
    have h66 : 66 < h₃.objs.size + 3 := Nat.lt_of_lt_of_le (Nat.lt_trans (Nat.lt_trans (by decide) hs) F₃.lt) (Nat.le_add_right _ _)
    by_cases hn : n < ys.length
    · rw [List.getElem?_append_left hn] at hu
      obtain ⟨tv', e', hi, el'⟩ := hf n u' hu
      exact ⟨tv', e', hi, el'.ext x₅ fun c hc _ q => by rw [show c = 66 from q] at hc; exact absurd h66 (Nat.not_lt.mpr hc)⟩
    · have hn' : n = ys.length := by
        have := (List.getElem?_eq_some_iff.mp hu).1
        rw [List.length_append, List.length_singleton] at this
        omega
      subst hn'
      rw [List.getElem?_append_right (Nat.le_refl _), Nat.sub_self] at hu
      cases hu
      exact ⟨v, by rw [hl]; exact hv, _, el.mono hsz (Nat.le_refl _)⟩
  obtain ⟨T2₉, usl, usf⟩ := r
  have sLo2 : s.heap.objs.size + 2 < h₃.objs.size + 3 := Nat.lt_of_lt_of_le c2S (Nat.le_trans S3 (Nat.le_add_right _ _))
  have D2 : s.heap.objs.size + 2 < D := Nat.lt_of_lt_of_le c2S (Nat.le_trans S3 hD)
  have sLo : s.heap.objs.size < h₃.objs.size + 3 := Nat.lt_of_lt_of_le F₃.lt (Nat.le_add_right _ _)
  have e34 : Ext (fun b => b = s.heap.objs.size ∨ b = 66) h₃ h' := e₄
  have CS : s.heap.objs.size < C := Nat.lt_of_lt_of_le F₃.lt hC
  have T2₄ : Tab h' 70 66 qE := T2₉.ext e₉ (by decide) (by decide) fun b q => by
    rcases q with q | q
    · rw [q]; exact .inr ⟨hs, .ns F₉⟩
    · rw [q]; exact .inr ⟨Nat.lt_trans hs CS, .ns nC⟩
  have T1₄ : Tab h' 27 23 selQ := T1₃.ext e34 (by decide) (by decide) fun b q => by
    rcases q with q | q
    · rw [q]; exact .inr ⟨hs, .ns F₃⟩
    · rw [q]; exact .inl ⟨.inr (.inl rfl), by decide⟩
  have T3₄ : Tab h' 77 73 qC := T3₃.ext e34 (by decide) (by decide) fun b q => by
    rcases q with q | q
    · rw [q]; exact .inr ⟨hs, .ns F₃⟩
    · rw [q]; exact .inl ⟨.inr (.inl rfl), by decide⟩
  have y₄ : Ext (Zx s.heap.objs.size) s.heap h' := (E₃.mono fun _ q => q.elim).up e34 fun b q => by
    rcases q with q | q
    · exact .inl (Nat.le_of_eq q.symm)
    · exact .inr (.inr (.inl q))
  have G₄ := G.z y₄ hs
  have el₄ : ∀ v t, (v, t) ∈ us.zip ts → El h' (h₃.objs.size + 3) h'.objs.size v t ∧ Okt t := fun v t m => by
    obtain ⟨n, hn⟩ := List.mem_iff_getElem?.mp m
    obtain ⟨h1, h2⟩ := List.getElem?_zip_eq_some.mp hn
    obtain ⟨tv', e', hi, el⟩ := usf n v h1
    rw [h2] at e'; cases e'
    obtain ⟨o, ho, r⟩ := tv.at' h2
    refine ⟨(el.ext e₉ fun c hc _ q => ?_).top, okt_of (List.mem_of_getElem? ho) r⟩
    rcases q with q | q
    · rw [q] at hc; exact absurd sLo (Nat.not_lt.mpr hc)
    · rw [q] at hc; exact absurd hC3 (Nat.not_lt.mpr hc)
  have rt₄ : RT (us.zip ts) ns := ⟨by rw [List.length_zip, usl, Nat.min_self]; exact tv.1, fun n p o hp ho => by
    obtain ⟨v, t⟩ := p
    obtain ⟨h1, h2⟩ := List.getElem?_zip_eq_some.mp hp
    exact tv.2 n t o h2 ho⟩
  have LR₄ : Ls h' D ((us.zip ts).map (·.1)) := by
    rw [List.map_fst_zip (Nat.le_of_eq usl)]; exact LD
  have DS : s.heap.objs.size < D := Nat.lt_of_lt_of_le F₃.lt hD
  have n34 : ∀ b, s.heap.objs.size < b → ¬ (b = s.heap.objs.size ∨ b = 66) := fun b hb q => by
    rcases q with q | q
    · exact nL b hb q
    · rw [q] at hb; exact absurd (Nat.lt_trans hs hb) (by decide)
  have LT₄ := LT₃.ext e34 (n34 _ TS)
  have cr₄ := cellExt cr₃ e34 (n34 _ (Nat.lt_succ_self _))
  have ct₄ := cellExt ct₃ e34 (n34 _ (Nat.lt_add_of_pos_right (by decide)))
  have lo114 : 114 < h₃.objs.size + 3 := Nat.lt_trans hs sLo
  have S4 : s.heap.objs.size < h'.objs.size := F₄.lt
  generalize hlo : h₃.objs.size + 3 = lo at *
  generalize hrt : us.zip ts = rt at *
  clear usf usl LD e₄ e34 e₉ F₉ T2₉ nC T1₃ T2₃ T3₃ G₃ LT₃ cr₃ ct₃ F₃ E₃ e13 hC hC3 CS G₁ F₁ E₁ z₂ z₃
  -- names
  have n23 : ∀ b, 114 < b → ¬ At 23 b := fun b hb z => by rw [show b = 23 from z] at hb; exact absurd hb (by decide)
  have D114 : 114 < D := Nat.lt_trans hs DS
  have nLx : ∀ b, s.heap.objs.size < b → ¬ (b = s.heap.objs.size ∨ b = 23) := fun b hb q => by
    rcases q with q | q
    · exact nL b hb q
    · rw [q] at hb; exact absurd (Nat.lt_trans hs hb) (by decide)
  have tb23 : ∀ {h : Heap} {m} {P : Addr}, P ≠ 23 → Loc h s.heap.objs.size m → ∀ b, (b = s.heap.objs.size ∨ b = 23) → (Tb b ∧ b ≠ P) ∨ (Hi b ∧ NC h b) := fun hP F b q => by
    rcases q with q | q
    · exact ncL F b q
    · exact .inl ⟨.inl q, by rw [q]; exact Ne.symm hP⟩
  have zx : ∀ b, (b = s.heap.objs.size ∨ b = 23) → Zx s.heap.objs.size b := fun b q => by
    rcases q with q | q
    · exact .inl (Nat.le_of_eq q.symm)
    · exact .inr (.inl q)
  have loL : s.heap.objs.size < lo := sLo
  refine wpAny_execs_cons ?_
  refine AssignCompG (m := (Str.ofString "row", .ref D) :: (Str.ofString "tags", .ref T) :: [(Str.ofString "script", .ref sc)]) (xs := namesOf ns) (ys := sel isStr rt) (by rfl) rfl (by decide) rfl (by decide) rfl (by decide) ?_
  refine evalSel G₄ ?_
  refine Constant_str ?_
  refine ⟨_, _, isStr, D, lo, h'.objs.size, rt, _, rfl, prep1 (s := { s with heap := h', toks := _ }) G₄ (R3 _) (Nat.lt_trans hs S4) T1₄ (by decide), G₄, Nat.le_refl _, LR₄, el₄, lo114, D114, hs, F₄, lkE, ?_⟩
  intro a g' h₅ gs₅ tk₅ Fr hFr hFr' x₅ TM₅ hb₅ hgen Fd
  have sa := sel_all rt₄
  have nsl : (sel isStr rt).length < 1000 := by rw [sa.1]; exact Nat.lt_of_le_of_lt (names_len ns) (by decide)
  refine ⟨a, g', Fr, lo, h'.objs.size, D, h'.objs.size, rfl, hgen, Fd, TM₅, hFr, hFr', Nat.le_refl _, Nat.lt_trans hs S4, LR₄.lt, nsl, sa.mono fun v x hx => let ⟨u, m⟩ := hx; ⟨u, (el₄ v _ m).1.ext x₅ fun b hb _ => n23 b (Nat.lt_of_lt_of_le lo114 hb)⟩, F₄.ext x₅ (n23 _ hs), S4, hs, ?_⟩
  intro Nm h₆ gs₆ tk₆ nv hNm F₆ x₆ hb₆ TM₆ LN₆ nv₆
  have e46 : Ext (fun b => b = s.heap.objs.size ∨ b = 23) h' h₆ := (x₅.mono fun b q => .inr q).step x₆ fun c o ec q => by
    rcases q with q | q
    · exact .inl q
    · exact absurd (Heap.lt_size ec) (Nat.not_lt.mpr q)
  have NmS : s.heap.objs.size < Nm := Nat.lt_of_lt_of_le (Nat.lt_of_lt_of_le S4 (Nat.le_trans hFr (Nat.le_of_lt hFr'))) hNm
  have NmD : D < Nm := Nat.lt_of_lt_of_le LR₄.lt (Nat.le_trans (Nat.le_trans hFr (Nat.le_of_lt hFr')) hNm)
  have hb46 : AllBare s.gens → AllBare gs₆ := fun b => hb₆ (hb₅ b)
  have T1₆ := TM₆.tab
  have T2₆ := T2₄.ext e46 (by decide) (by decide) (tb23 (by decide) F₄)
  have T3₆ := T3₄.ext e46 (by decide) (by decide) (tb23 (by decide) F₄)
  have y₆ := y₄.up e46 zx
  have G₆ := G.z y₆ hs
  have el₆ : ∀ v t, (v, t) ∈ rt → El h₆ lo h'.objs.size v t ∧ Okt t := fun v t m => ⟨(el₄ v t m).1.ext e46 fun b hb _ => nLx b (Nat.lt_of_lt_of_le loL hb), (el₄ v t m).2⟩
  have LR₆ := LR₄.ext e46 (nLx _ DS)
  have LT₆ := LT₄.ext e46 (nLx _ TS)
  have cr₆ := cellExt cr₄ e46 (nLx _ (Nat.lt_succ_self _))
  have ct₆ := cellExt ct₄ e46 (nLx _ (Nat.lt_add_of_pos_right (by decide)))
  have S6 : s.heap.objs.size < h₆.objs.size := F₆.lt
  have el₆' : ∀ v t, (v, t) ∈ rt → El h₆ lo h₆.objs.size v t ∧ Okt t := fun v t m => ⟨(el₆ v t m).1.top, (el₆ v t m).2⟩
  clear Fd hgen TM₅ x₅ x₆ hb₅ hb₆ TM₆ T1₄ T2₄ T3₄ e46 el₄ el₆ LR₄ LT₄ cr₄ ct₄ G₄ F₄ y₄ hFr hFr' hNm
  -- words
  refine wpAny_execs_cons ?_
  refine AssignCompG (m := (Str.ofString "names", .ref Nm) :: (Str.ofString "row", .ref D) :: (Str.ofString "tags", .ref T) :: [(Str.ofString "script", .ref sc)]) (xs := wordsS) (ys := sel pass2 rt) (by rfl) rfl (by decide) rfl (by decide) rfl (by decide) ?_
  refine evalSel G₆ ?_
  refine Constant_str ?_
  refine ⟨_, _, pass2, D, lo, h₆.objs.size, rt, _, rfl, prep2 (s := { s with heap := h₆, gens := gs₆, toks := _ }) G₆ (R3 _) (Nat.lt_trans hs S6) T1₆ (by decide) (by decide) (by decide), G₆, Nat.le_refl _, LR₆, el₆', lo114, D114, hs, F₆, lkN lkE, ?_⟩
  intro a₂ g₂ h₇ gs₇ tk₇ Fr₂ hFr hFr' x₇ TM₇ hb₇ hgen Fd
  have sb := sel_bare rt₄
  refine ⟨a₂, g₂, Fr₂, lo, h₆.objs.size, D, h₆.objs.size, rfl, hgen, Fd, TM₇, hFr, hFr', Nat.le_refl _, Nat.lt_trans hs S6, LR₆.lt, by rw [sb.1]; decide, sb.mono fun v x hx => let ⟨u, m⟩ := hx; ⟨u, (el₆' v _ m).1.ext x₇ fun b hb _ => n23 b (Nat.lt_of_lt_of_le lo114 hb)⟩, F₆.ext x₇ (n23 _ hs), S6, hs, ?_⟩
  intro Wl h₈ gs₈ tk₈ wv hWl F₈ x₈ hb₈ TM₈ LW₈ wv₈
  have e68 : Ext (fun b => b = s.heap.objs.size ∨ b = 23) h₆ h₈ := (x₇.mono fun b q => .inr q).step x₈ fun c o ec q => by
    rcases q with q | q
    · exact .inl q
    · exact absurd (Heap.lt_size ec) (Nat.not_lt.mpr q)
  have WlS : s.heap.objs.size < Wl := Nat.lt_of_lt_of_le (Nat.lt_of_lt_of_le S6 (Nat.le_trans hFr (Nat.le_of_lt hFr'))) hWl
  have WlD : D < Wl := Nat.lt_of_lt_of_le LR₆.lt (Nat.le_trans (Nat.le_trans hFr (Nat.le_of_lt hFr')) hWl)
  have hb68 : AllBare s.gens → AllBare gs₈ := fun b => hb₈ (hb₇ (hb46 b))
  have T1₈ := TM₈.tab
  have T2₈ := T2₆.ext e68 (by decide) (by decide) (tb23 (by decide) F₆)
  have T3₈ := T3₆.ext e68 (by decide) (by decide) (tb23 (by decide) F₆)
  have y₈ := y₆.up e68 zx
  have G₈ := G.z y₈ hs
  have el₈ : ∀ v t, (v, t) ∈ rt → El h₈ lo h₈.objs.size v t ∧ Okt t := fun v t m => ⟨((el₆' v t m).1.ext e68 fun b hb _ => nLx b (Nat.lt_of_lt_of_le loL hb)).top, (el₆' v t m).2⟩
  have LR₈ := LR₆.ext e68 (nLx _ DS)
  have LT₈ := LT₆.ext e68 (nLx _ TS)
  have LN₈ := LN₆.ext e68 (nLx _ NmS)
  have cr₈ := cellExt cr₆ e68 (nLx _ (Nat.lt_succ_self _))
  have ct₈ := cellExt ct₆ e68 (nLx _ (Nat.lt_add_of_pos_right (by decide)))
  have S8 : s.heap.objs.size < h₈.objs.size := F₈.lt
  clear Fd hgen TM₇ x₇ x₈ hb₇ hb₈ hb46 TM₈ T1₆ T2₆ T3₆ e68 el₆' LR₆ LT₆ LN₆ cr₆ ct₆ G₆ F₆ y₆ hFr hFr' hWl S6 S4
  have c2T : s.heap.objs.size + 2 < T := Nat.lt_of_lt_of_le c2S hT
  have K₈ : LBd w s.heap.objs.size lo s.heap D Nm Wl rt nv wv h₈ := ⟨y₈, T1₈, T2₈, T3₈, el₈, LR₈, LN₈, LW₈, hs, sLo2, D2, Nat.lt_trans D2 NmD, Nat.lt_trans D2 WlD⟩
  clear y₈ T1₈ T2₈ T3₈ el₈ LR₈ LN₈ LW₈
  -- names and words are as the tags tell
  have hu : ∀ env, (A.deeper env).units < cLine := fun env => (R.deeper env).u
  have tvd : All2 TV (ts.drop 1) ((namesOf ns).map some) := by
    have := tv.drop 1
    rw [tags_names] at this
    exact this
  have tvw : All2 TV ((ts.drop 1).take 6) (wordsS.map some) := by
    have := tvd.take 6
    rw [← List.map_take] at this
    exact this
  have ts7 : 7 ≤ ts.length := by
    have := tvw.1
    rw [List.length_take, List.length_drop, List.length_map, show wordsS.length = 6 from rfl] at this
    omega
  have likeT : ∀ {us vs : List Value} {xs : List Str}, All2 SV us xs → All2 TV vs (xs.map some) → ∀ (j : Nat) (u v : Value), us[j]? = some u → vs[j]? = some v → MeetsSeq.EqGives u v true ∨ u = .none ∧ v = .none := fun a b j u v hu hv => by
    obtain ⟨x, hx, su⟩ := a.at' hu
    have : TV v (some x) := b.2 j v (some x) hv (by rw [List.getElem?_map, hx]; rfl)
    exact .inl (su.alike this)
  have cut1 : (slicePick ts.toArray (some 1) none none).toList = ts.drop 1 := pickFrom ts 1
  have cut2 := pick17 ts ts7
  refine wpAny_execs_cons (wpAny_If (wpAny_mono (Q := fun b s' => b = false ∧ ∃ h tk, s' = { s with heap := h, gens := gs₈, toks := tk } ∧ Ext Non h₈ h) ?_ ?_ fun _ _ q => q))
  · refine hide fun Q3 hQ3 => ?_
    refine wpAny_isTrue_BoolOp ?_
    refine wpAny_allTrue_Or_cons ?_
    refine wpAny_isTrue_Compare1 ?_
    refine Loc.name F₈ (lkN lkE) ?_
    refine cutL ?_
    refine Loc.name F₈ (lkN (lkN (lkN lkE))) ?_
    refine partLit ?_
    intro t1 tk1
    refine partNo ?_
    refine ⟨T, ts, some 1, none, rfl, LT₈.isList, Nat.lt_trans tsl (by decide), .int _ _, .none, fun D1 h₉ hD1 LD1 x₉ => ?_⟩
    rw [cut1] at LD1
    refine neSame (K₈.ln.ext x₉ id) LD1 (by rw [nv₆.1, tvd.1, List.length_map]) (hu _) (likeT nv₆ tvd) ?_
    refine wpAny_truthy_bool ?_
    rw [if_neg Bool.false_ne_true]
    refine wpAny_allTrue_Or_cons ?_
    refine wpAny_isTrue_Compare1 ?_
    refine Loc.name (F₈.ext x₉ id) lkE ?_
    refine cutL ?_
    refine Loc.name (F₈.ext x₉ id) (lkN (lkN (lkN lkE))) ?_
    refine partLit ?_
    intro t2 tk2
    refine partLit ?_
    intro t3 tk3
    refine ⟨T, ts, some 1, some 7, rfl, (LT₈.ext x₉ id).isList, Nat.lt_trans tsl (by decide), .int _ _, .int _ _, fun D2 h₁₀ hD2 LD2 x₁₀ => ?_⟩
    rw [cut2] at LD2
    refine neSame ((K₈.lw.ext x₉ id).ext x₁₀ id) LD2 (by rw [wv₈.1, tvw.1, List.length_map]) (hu _) (likeT wv₈ tvw) ?_
    refine wpAny_truthy_bool ?_
    rw [if_neg Bool.false_ne_true]
    refine wpAny_allTrue_Or_nil ?_
    exact hQ3 _ _ ⟨rfl, h₁₀, _, rfl, x₉.non x₁₀⟩
  rintro _ _ ⟨rfl, h₉, tk₉, rfl, x₉⟩
  rw [if_neg Bool.false_ne_true]
  refine wpAny_execs_nil ?_
  have K₉ := K₈.non x₉
  have F₉ := F₈.ext x₉ id
  have cr₉ := cellExt cr₈ x₉ id
  have ct₉ := cellExt ct₈ x₉ id
  clear K₈ F₈ cr₈ ct₈ x₉ LT₈ tvd tvw likeT cut1 cut2 ts7 tv tsl
  -- refusal
  refine wpAny_execs_cons ?_
  refine wpAny_Assign_Name ?_
  refine Constant_str ?_
  refine wpAny_storeName_cell rfl rfl rfl cr₉ ?_
  intro h₁₀ cr₁₀ sb₁₀
  have x₁₀ : Ext (At (s.heap.objs.size + 1)) h₉ h₁₀ := Ext.sameBut sb₁₀ rfl
  clear sb₁₀
  have K₁₀ := K₉.own x₁₀ fun b q => ⟨by rw [show b = s.heap.objs.size + 1 from q]; exact Nat.le_succ _, by rw [show b = s.heap.objs.size + 1 from q]; exact Nat.le_succ _, by rw [show b = s.heap.objs.size + 1 from q]; exact .cell cr₉⟩
  have F₁₀ := F₉.ext x₁₀ (Ne.symm (Nat.succ_ne_self _))
  have ct₁₀ := cellExt ct₉ x₁₀ (Nat.succ_ne_self _)
  clear K₉ F₉ cr₉ ct₉ x₁₀
  have nvl : nv.length < 1000 := by rw [nv₆.1]; exact Nat.lt_of_le_of_lt (names_len ns) (by decide)
  have snoc : ∀ {us : List Value} {v : Value} {n : Str} {i : Nat}, All2 OV us ((namesOf ns).take i) → (namesOf ns)[i]? = some n → OV v n → All2 OV (us ++ [v]) ((namesOf ns).take (i + 1)) := fun a hn o => by
    rw [List.take_add_one, hn]
    exact a.append (.cons o .nil)
  -- plain
  refine wpAny_execs_cons ?_
  refine AssignCompT (m := (Str.ofString "words", .ref Wl) :: (Str.ofString "names", .ref Nm) :: (Str.ofString "row", .ref D) :: (Str.ofString "tags", .ref T) :: [(Str.ofString "script", .ref sc)]) (fun i ys => All2 OV ys ((namesOf ns).take i)) (by rfl) rfl (by decide) rfl (by decide) rfl R.handled .nil ?_
  refine Loc.name F₁₀ (lkN lkE) ?_
  refine ⟨Nm, nv, rfl, K₁₀.ln, nvl, F₁₀, fun C i v ys h tk mm hv r e hC nC mx => ?_, fun Pa h₁₁ tk₁₁ pv0 hPa F₁₁ x₁₁ LP ap => ?_⟩
  · obtain ⟨n, hn, u, rfl⟩ := nv₆.at' hv
    obtain ⟨f1, f2, f3⟩ := (names_ok (List.mem_of_getElem? hn)).facts
    have Gh := G.z (K₁₀.non e).y hs
    refine tests0 ?_
    refine ⟨h, tk, rfl, Ext.refl _ _, ?_⟩
    rw [if_pos rfl]
    refine wpAny_IfExp ?_
    refine wpAny_isTrue_Compare1 ?_
    refine chr_ Gh ?_
    refine wpAny_Constant_int ?_
    refine ⟨_, rfl, fun t1 tk1 => ?_⟩
    refine nsName nC mx ?_
    refine PyProof.Rows.in_str ?_
    refine wpAny_truthy_bool ?_
    show if has233 n = true then _ else _
    rw [f3]
    cases hp : plainS n with
    | false =>
      rw [if_pos (by rfl)]
      refine cellName (cellExt cr₁₀ e id) ?_
      exact ⟨h, _, rfl, Ext.refl _ _, snoc r hn (by unfold OV; rw [if_neg (by rw [hp]; exact Bool.false_ne_true)]; exact ⟨_, rfl⟩)⟩
    | true =>
      rw [if_neg (by exact Bool.false_ne_true)]
      refine bytesOf_ (z := n) (u := u) Gh R.handled rfl (by decide) rfl (by decide) rfl (fun C => rfl) (plain_all hp) f2 (fun Q' q => nsName nC mx q) ?_
      intro h' t tk x
      exact ⟨h', tk, rfl, x, snoc r hn (by unfold OV; rw [if_pos hp]; exact ⟨_, rfl⟩)⟩
  rw [nv₆.1, List.take_length] at ap
  have K₁₁ := K₁₀.own x₁₁ fun b q => ⟨by rw [show b = s.heap.objs.size from q]; exact Nat.le_refl _, by rw [show b = s.heap.objs.size from q]; exact Nat.le_add_right _ _, by rw [show b = s.heap.objs.size from q]; exact .ns F₁₀⟩
  have ct₁₁ := cellExt ct₁₀ x₁₁ (nL _ (Nat.lt_add_of_pos_right (by decide)))
  have PaS : s.heap.objs.size < Pa := Nat.lt_of_lt_of_le F₁₀.lt hPa
  clear K₁₀ F₁₀ cr₁₀ ct₁₀ x₁₁
  -- octets
  refine wpAny_execs_cons (wpAny_If (wpAny_mono (Q := fun b s' => b = false ∧ ∃ h tk, s' = { s with heap := h, gens := gs₈, toks := tk } ∧ Ext Non h₁₁ h) ?_ ?_ fun _ _ q => q))
  · refine hide fun Q4 hQ4 => ?_
    refine wpAny_isTrue_Compare1 ?_
    refine compT (fun i ys => All2 OV ys ((namesOf ns).take i)) rfl (by decide) rfl (by decide) rfl R.handled .nil ?_
    refine Loc.name F₁₁ (lkN (lkN lkE)) ?_
    refine ⟨Nm, nv, rfl, K₁₁.ln, nvl, fun C i v ys h tk mm hv r e hC nC mx => ?_, fun O h₁₂ tk₁₂ ov hO x₁₂ LO ao => ?_⟩
    · obtain ⟨n, hn, u, rfl⟩ := nv₆.at' hv
      obtain ⟨f1, f2, f3⟩ := (names_ok (List.mem_of_getElem? hn)).facts
      have Gh := G.z (K₁₁.non e).y hs
      have Fh := F₁₁.ext e id
      refine tests0 ?_
      refine ⟨h, tk, rfl, Ext.refl _ _, ?_⟩
      rw [if_pos rfl]
      refine callG (env := compEnvC _ _ C _) (f := 85) Gh (by kernel_rfl) rfl rfl ?_
      refine args_cons ?_
      refine nsName nC mx ?_
      refine args_nil ?_
      refine ⟨Gh, useSpec (octets_spec (s := { s with heap := h, gens := gs₈, toks := tk }) Gh ((R.deeper _).le (by decide)) (Around.frames_deeper hfr) (Fs.cons (fun _ m => nomatch m) (by show ScopeKind.function ≠ ScopeKind.module; decide) rfl hs hbn Fh) (Nat.lt_trans hs Fh.lt) (Nat.le_trans hbn (Nat.le_of_lt Fh.lt)) f2 f1) ?_⟩
      rintro r' s' ⟨h₅, tk₅, ov, rfl, rfl, x₅, hov⟩
      exact ⟨_, rfl, h₅, tk₅, rfl, x₅, snoc r hn hov⟩
    · rw [nv₆.1, List.take_length] at ao
      refine Loc.name (F₁₁.ext x₁₂ id) lkE ?_
      refine neSame LO (LP.ext x₁₂ id) (by rw [ao.1, ap.1]) (hu _) (fun j u v hu hv => ?_) ?_
      rotate_left
      refine wpAny_truthy_bool ?_
      · exact hQ4 _ _ ⟨rfl, h₁₂, _, rfl, x₁₂⟩
      · obtain ⟨n, hn, ho⟩ := ao.at' hu
        exact .inl (ho.alike (ap.2 j v n hv hn))
  rintro _ _ ⟨rfl, h₁₂, tk₁₂, rfl, x₁₂⟩
  rw [if_neg Bool.false_ne_true]
  refine wpAny_execs_nil ?_
  have K₁₂ := K₁₁.non x₁₂
  have F₁₂ := F₁₁.ext x₁₂ id
  have ct₁₂ := cellExt ct₁₁ x₁₂ id
  have LP₁₂ := LP.ext x₁₂ id
  clear K₁₁ F₁₁ ct₁₁ x₁₂ LP snoc
  -- places
  have pl0 : pv0.length < 2 ^ 22 := by rw [ap.1]; exact Nat.lt_of_le_of_lt (names_len ns) (by decide)
  have cut3 : (slicePick pv0.toArray none (some 6) none).toList = pv0.take 6 := pickUp pv0 6
  have hpv : PV (pv0.take 6) := by
    have a := ap.take 6
    have e : (namesOf ns).take 6 = wordsS := rfl
    rw [e] at a
    refine ⟨a.1, fun i v x hv hx => ?_⟩
    have o := a.2 i v x hv hx
    obtain ⟨k, hk, rfl⟩ := words_idx (List.mem_of_getElem? hx)
    unfold OV at o
    rw [if_pos (plain_word k hk).1] at o
    exact o
  refine wpAny_execs_cons ?_
  refine wpAny_Assign_Name ?_
  refine cutL ?_
  refine Loc.name F₁₂ lkE ?_
  refine partNo ?_
  refine partLit ?_
  intro t4 tk4
  refine ⟨Pa, pv0, none, some 6, rfl, LP₁₂.isList, pl0, .none, .int _ _, fun Pl h₁₃ hPl LPl x₁₃ => ?_⟩
  rw [cut3] at LPl
  refine Loc.storeZ (F₁₂.ext x₁₃ id) ?_
  intro h₁₄ F₁₄ x₁₄ z₁₄
  have PlS : s.heap.objs.size < Pl := Nat.lt_of_lt_of_le F₁₂.lt hPl
  have ownL : ∀ {h : Heap} {m}, Loc h s.heap.objs.size m → ∀ b, At s.heap.objs.size b → s.heap.objs.size ≤ b ∧ b ≤ s.heap.objs.size + 2 ∧ NC h b := fun F b q => ⟨by rw [show b = s.heap.objs.size from q]; exact Nat.le_refl _, by rw [show b = s.heap.objs.size from q]; exact Nat.le_add_right _ _, by rw [show b = s.heap.objs.size from q]; exact .ns F⟩
  have K₁₄ := (K₁₂.non x₁₃).own x₁₄ (ownL (F₁₂.ext x₁₃ id))
  have c2L := nL _ (show s.heap.objs.size < s.heap.objs.size + 2 from Nat.lt_add_of_pos_right (by decide))
  have ct₁₄ := cellExt (cellExt ct₁₂ x₁₃ id) x₁₄ c2L
  have LPl₁₄ := LPl.ext x₁₄ (nL _ PlS)
  clear K₁₂ F₁₂ ct₁₂ x₁₃ x₁₄ LPl LP₁₂ ap cut3 pl0
  -- ahead
  have G₁₄ := G.z K₁₄.y hs
  have S14 := F₁₄.lt
  have S14' : s.heap.objs.size + 2 < h₁₄.objs.size := Nat.lt_trans K₁₄.p.2.2.1 K₁₄.lr.lt
  have up2 : ∀ {b : Nat}, s.heap.objs.size + 2 < b → s.heap.objs.size < b := fun hb => Nat.lt_of_le_of_lt (Nat.le_add_right _ _) hb
  have hi_ : ∀ {b : Nat}, s.heap.objs.size < b → 114 < b := fun hb => Nat.lt_trans hs hb
  have FSof : ∀ {h : Heap} {m} (env : Env), Loc h s.heap.objs.size m → env.frame = some s.heap.objs.size → env.scope.kind ≠ .module → Fs h (env :: []) := fun env F e1 e2 => Fs.cons (fun _ m => nomatch m) e2 e1 hs hbn F
  refine wpAny_execs_cons ?_
  refine wpAny_Assign_Name ?_
  refine callG (f := 99) G₁₄ (by kernel_rfl) rfl rfl ?_
  refine args_cons ?_
  refine Loc.name F₁₄ (lkN (lkN lkE)) ?_
  refine args_cons ?_
  refine Loc.name F₁₄ lkE ?_
  refine args_cons ?_
  refine Loc.name F₁₄ (lkN (lkN (lkN (lkN lkE)))) ?_
  refine args_nil ?_
  refine ⟨G₁₄, useS (ahead_spec (s := { s with heap := h₁₄, gens := gs₈, toks := _ }) (lo := lo) (hi := h₁₄.objs.size) G₁₄ (R9 _) (Around.frames_deeper hfr) (FSof _ F₁₄ rfl (by show ScopeKind.function ≠ ScopeKind.module; decide)) (hi_ S14) (Nat.le_trans hbn (Nat.le_of_lt S14)) K₁₄.t1 K₁₄.lw wv₈ LPl₁₄ hpv K₁₄.lr K₁₄.el rt₄ lo114 (Nat.le_refl _) (hi_ WlS) (hi_ PlS) D114) ?_⟩
  rintro r' s' ⟨h₁₅, gs₁₅, tk₁₅, Ah, es, rfl, rfl, x₁₅, hb₁₅, T₁₅, hAh, LA, aA⟩ z₁₅
  refine ⟨_, rfl, ?_⟩
  have n23' : ∀ b, s.heap.objs.size < b → ¬ At 23 b := fun b hb => n23 b (hi_ hb)
  have F₁₅ := F₁₄.ext x₁₅ (n23 _ hs)
  refine Loc.storeZ F₁₅ ?_
  intro h₁₆ F₁₆ x₁₆ z₁₆
  have K₁₆ := (K₁₄.t23 x₁₅ T₁₅).own x₁₆ (ownL F₁₅)
  have ct₁₆ := cellExt (cellExt ct₁₄ x₁₅ (n23' _ (Nat.lt_add_of_pos_right (by decide)))) x₁₆ c2L
  have LPl₁₆ := (LPl₁₄.ext x₁₅ (n23' _ PlS)).ext x₁₆ (nL _ PlS)
  have AhS2 : s.heap.objs.size + 2 < Ah := Nat.lt_of_lt_of_le S14' hAh
  have AhS := up2 AhS2
  have LA₁₆ := LA.ext x₁₆ (nL _ AhS)
  have aA₁₆ : All2 (fun v k => ∃ l, v = .ref l ∧ s.heap.objs.size + 2 < l ∧ LN h₁₆ l (outM (xsOf ns) k)) es (List.range 6) := aA.mono fun v k ⟨l, e, q, r⟩ => ⟨l, e, Nat.lt_of_lt_of_le S14' q, r.ext x₁₆ (nL _ (Nat.lt_of_lt_of_le S14 q))⟩
  have hb₁₆ : AllBare s.gens → AllBare gs₁₅ := fun b => hb₁₅ (hb68 b)
  have G₁₆ := G.z K₁₆.y hs
  have S16 := F₁₆.lt
  have S16' : s.heap.objs.size + 2 < h₁₆.objs.size := Nat.lt_trans K₁₆.p.2.2.1 K₁₆.lr.lt
  clear K₁₄ F₁₄ F₁₅ ct₁₄ LPl₁₄ LA aA G₁₄ x₁₅ x₁₆ T₁₅ hb₁₅ hb68 hAh S14
  -- settled
  refine wpAny_execs_cons ?_
  refine Assign_Tuple ?_
  refine callG (f := 104) G₁₆ (by kernel_rfl) rfl rfl ?_
  refine args_cons ?_
  refine Loc.name F₁₆ (lkN (lkN (lkN lkE))) ?_
  refine args_cons ?_
  refine Loc.name F₁₆ (lkN lkE) ?_
  refine args_cons ?_
  refine Loc.name F₁₆ (lkN (lkN (lkN (lkN (lkN lkE))))) ?_
  refine args_cons ?_
  refine Loc.name F₁₆ lkE ?_
  refine args_nil ?_
  refine ⟨G₁₆, useS (settled_spec (s := { s with heap := h₁₆, gens := gs₁₅, toks := _ }) (lo := lo) (hi := h₁₆.objs.size) (ns := ns) (InvB ns) (Mine.mu 6 16) G₁₆ (R9 _) (Around.frames_deeper hfr) (FSof _ F₁₆ rfl (by show ScopeKind.function ≠ ScopeKind.module; decide)) (hi_ S16) (Nat.le_trans hbn (Nat.le_of_lt S16)) K₁₆.t1 K₁₆.lw wv₈ LPl₁₆ hpv K₁₆.lr K₁₆.el rt₄ lo114 (Nat.le_refl _) (hi_ WlS) (hi_ PlS) D114 LA₁₆ (hi_ AhS) (aA₁₆.mono fun v k ⟨l, e, q, r⟩ => ⟨l, e, hi_ (up2 q), r⟩) (invB0 ns) (fun st t rest ys z I hz hp => invB1 ns st t rest ys z I hz hp) (fun st I => invB2 ns st I)) ?_⟩
  rintro r' s' ⟨h₁₇, gs₁₇, tk₁₇, Dt, rl, ol, rv, st, fa, rfl, rfl, x₁₇, hb₁₇, T₁₇, TD, inv, hnil, hrl, hol, Lrl, arv, Lol, hfa⟩ z₁₇
  refine ⟨_, rfl, ?_⟩
  refine assign_Tuple_tuple (items := #[.ref rl, .ref ol]) R.handled TD rfl rfl ?_
  intro h₁₈ x₁₈'
  have x₁₈ : Ext Non h₁₇ h₁₈ := Ext.of (fun b o e => x₁₈' b o (Nat.ne_of_lt (Heap.lt_size e)) e) _
  clear x₁₈'
  have F₁₇ := F₁₆.ext x₁₇ (n23 _ hs)
  have F₁₈ := F₁₇.ext x₁₈ id
  refine assignInOrder_cons ?_
  refine assign_Name ?_
  refine Loc.storeZ F₁₈ ?_
  intro h₁₉ F₁₉ x₁₉ z₁₉
  refine assignInOrder_cons ?_
  refine assign_Name ?_
  refine Loc.storeZ F₁₉ ?_
  intro h₂₀ F₂₀ x₂₀ z₂₀
  refine assignInOrder_nil ?_
  have K₂₀ := (((K₁₆.t23 x₁₇ T₁₇).non x₁₈).own x₁₉ (ownL F₁₈)).own x₂₀ (ownL F₁₉)
  have e20 : Ext (fun b => b = s.heap.objs.size ∨ b = 23) h₁₆ h₂₀ := (((x₁₇.mono fun b q => .inr q).up x₁₈ fun _ q => q.elim).up x₁₉ fun b q => .inl q).up x₂₀ fun b q => .inl q
  have e78 : Ext (At s.heap.objs.size) h₁₇ h₂₀ := ((x₁₈.mono fun _ q => q.elim).trans x₁₉).trans x₂₀
  have ct₂₀ := cellExt ct₁₆ e20 (nLx _ (Nat.lt_add_of_pos_right (by decide)))
  have LA₂₀ := LA₁₆.ext e20 (nLx _ AhS)
  have aA₂₀ : All2 (fun v k => ∃ l, v = .ref l ∧ s.heap.objs.size + 2 < l ∧ LN h₂₀ l (outM (xsOf ns) k)) es (List.range 6) := aA₁₆.mono fun v k ⟨l, e, q, r⟩ => ⟨l, e, q, r.ext e20 (nLx _ (up2 q))⟩
  have rlS2 : s.heap.objs.size + 2 < rl := Nat.lt_of_lt_of_le S16' hrl
  have olS2 : s.heap.objs.size + 2 < ol := Nat.lt_of_lt_of_le S16' hol
  have rlS := up2 rlS2
  have olS := up2 olS2
  have Lrl₂₀ := Lrl.ext e78 (nL _ rlS)
  have Lol₂₀ := Lol.ext e78 (nL _ olS)
  have faS2 : ∀ i, i < 6 → s.heap.objs.size + 2 < fa i := fun i hi => Nat.lt_of_lt_of_le S16' (hfa i hi).1
  have faS : ∀ i, i < 6 → s.heap.objs.size < fa i := fun i hi => up2 (faS2 i hi)
  have LF₂₀ : ∀ i, i < 6 → LN h₂₀ (fa i) (st.fam i) := fun i hi => (hfa i hi).2.2.ext e78 (nL _ (faS i hi))
  have hb₂₀ : AllBare s.gens → AllBare gs₁₇ := fun b => hb₁₇ (hb₁₆ b)
  have G₂₀ := G.z K₂₀.y hs
  have S20 := F₂₀.lt
  clear K₁₆ F₁₆ F₁₇ F₁₈ F₁₉ ct₁₆ LPl₁₆ LA₁₆ aA₁₆ G₁₆ x₁₇ x₁₈ x₁₉ x₂₀ T₁₇ TD Lrl Lol hfa hb₁₇ hb₁₆ e20 e78 S16 hrl hol
  -- told
  have olt : ∀ k, k < 6 → ∀ j ∈ outM (xsOf ns) k, j < 6 := fun k hk j hj => (brd ns).lt k hk j hj
  have oll : ∀ k, k < 6 → (outM (xsOf ns) k).length < 1000 := fun k hk => by
    unfold outM Xout
    rw [List.length_map]
    exact Nat.lt_of_le_of_lt (Nat.le_trans (List.length_filter_le _ _) (Nat.le_trans (List.length_filter_le _ _) (xsOf_len ns))) (by decide)
  refine wpAny_execs_cons ?_
  refine wpAny_Assign_Name ?_
  refine callG (f := 109) G₂₀ (by kernel_rfl) rfl rfl ?_
  refine args_cons ?_
  refine Loc.name F₂₀ (lkN (lkN lkE)) ?_
  refine args_nil ?_
  refine ⟨G₂₀, useS (looking_spec (s := { s with heap := h₂₀, gens := gs₁₇, toks := _ }) (AA := fun k => outM (xsOf ns) k) G₂₀ (R3 _) (hi_ S20) LA₂₀ (hi_ AhS) (aA₂₀.mono fun v k ⟨l, e, q, r⟩ => ⟨l, e, hi_ (up2 q), r⟩) olt oll) ?_⟩
  rintro r' s' ⟨h₂₁, tk₂₁, Tt, tv, rfl, rfl, x₂₁, hTt, LTt, atv⟩ z₂₁
  refine ⟨_, rfl, ?_⟩
  have ct₂₁ := cellExt ct₂₀ x₂₁ id
  refine wpAny_storeName_cell rfl rfl rfl ct₂₁ fun h₂₂ ct₂₂ sb₂₂ => ?_
  have x₂₂ : Ext (At (s.heap.objs.size + 2)) h₂₁ h₂₂ := Ext.sameBut sb₂₂ rfl
  clear sb₂₂
  have K₂₂ := (K₂₀.non x₂₁).own x₂₂ fun b q => ⟨by rw [show b = s.heap.objs.size + 2 from q]; exact Nat.le_add_right _ _, Nat.le_of_eq q, by rw [show b = s.heap.objs.size + 2 from q]; exact .cell ct₂₁⟩
  have ne2 : ∀ b, s.heap.objs.size + 2 < b → ¬ At (s.heap.objs.size + 2) b := fun b hb q => absurd hb (by rw [show b = s.heap.objs.size + 2 from q]; exact Nat.lt_irrefl _)
  have F₂₂ := (F₂₀.ext x₂₁ id).ext x₂₂ (Nat.ne_of_lt (Nat.lt_add_of_pos_right (by decide)))
  have LA₂₂ := (LA₂₀.ext x₂₁ id).ext x₂₂ (ne2 _ AhS2)
  have aA₂₂ : All2 (fun v k => ∃ l, v = .ref l ∧ s.heap.objs.size + 2 < l ∧ LN h₂₂ l (outM (xsOf ns) k)) es (List.range 6) := aA₂₀.mono fun v k ⟨l, e, q, r⟩ => ⟨l, e, q, (r.ext x₂₁ id).ext x₂₂ (ne2 _ q)⟩
  have Lrl₂₂ := (Lrl₂₀.ext x₂₁ id).ext x₂₂ (ne2 _ rlS2)
  have Lol₂₂ := (Lol₂₀.ext x₂₁ id).ext x₂₂ (ne2 _ olS2)
  have LF₂₂ : ∀ i, i < 6 → LN h₂₂ (fa i) (st.fam i) := fun i hi => ((LF₂₀ i hi).ext x₂₁ id).ext x₂₂ (ne2 _ (faS2 i hi))
  have TtS2 : s.heap.objs.size + 2 < Tt := Nat.lt_of_lt_of_le (Nat.lt_trans K₂₀.p.2.2.1 K₂₀.lr.lt) hTt
  have LTt₂₂ := LTt.ext x₂₂ (ne2 _ TtS2)
  have G₂₂ := G.z K₂₂.y hs
  have S22 := F₂₂.lt
  clear K₂₀ F₂₀ ct₂₀ ct₂₁ LA₂₀ aA₂₀ Lrl₂₀ Lol₂₀ LF₂₀ LTt x₂₁ x₂₂ G₂₀ S20 hTt
  -- the table
  have inv1 := inv.1
  have ol6 := inv1.order_len
  have tol : (st.order.map fun k => Value.ref (fa k)).length < 2 ^ 22 := by rw [List.length_map]; exact Nat.lt_of_le_of_lt ol6 (by decide)
  refine wpAny_execs_cons ?_
  refine wpAny_Assign_Name ?_
  refine callG (f := 21) G₂₂ (by kernel_rfl) rfl rfl ?_
  refine args_cons ?_
  refine callG (f := 78) G₂₂ (by kernel_rfl) rfl rfl ?_
  refine args_cons ?_
  refine cutRev ?_
  refine Loc.name F₂₂ lkE ?_
  refine ⟨ol, _, rfl, Lol₂₂, tol, fun ol' h₂₃ tk₂₃ hol' LO x₂₃ => ?_⟩
  have G₂₃ := G₂₂.ext x₂₃ fun _ q => q.elim
  have K₂₃ := K₂₂.non x₂₃
  have S23 := (F₂₂.ext x₂₃ id).lt
  refine args_nil ?_
  refine ⟨G₂₃, useS (context_spec (s := { s with heap := h₂₃, gens := gs₁₇, toks := _ }) G₂₃ (R3 _) (hi_ S23) K₂₃.t3) ?_⟩
  rintro r' s' ⟨h₂₄, tk₂₄, c, rfl, rfl, x₂₄, T₂₄, Kc⟩ z₂₄
  refine ⟨_, rfl, ?_⟩
  have cS : h₂₃.objs.size < c := by
    obtain ⟨_, rt', _, _, _, _, q1, q2, _⟩ := Kc
    exact Nat.lt_of_le_of_lt q1 q2
  have h22c : h₂₂.objs.size < c := Nat.lt_of_le_of_lt hol' (Nat.lt_trans LO.lt cS)
  have Sc : s.heap.objs.size < c := Nat.lt_trans S22 h22c
  have c114 : 114 < c := hi_ Sc
  have n73 : ∀ b, 114 < b → ¬ At 73 b := fun b hb z => by rw [show b = 73 from z] at hb; exact absurd hb (by decide)
  have G₂₄ := G₂₃.ext x₂₄ fun b q => .inr (.inr (.inr q))
  have eL : ((famL fa st).reverse.map fun p => Value.ref p.1) = (st.order.map fun k => Value.ref (fa k)).reverse := by
    unfold famL; rw [List.map_reverse, List.map_map]; rfl
  have LO₂₄ : Ls h₂₄ ol' ((famL fa st).reverse.map fun p => Value.ref p.1) := by
    rw [eL]; exact LO.ext x₂₄ (n73 _ (hi_ (Nat.lt_of_lt_of_le S22 hol')))
  have fin_ : ∀ p ∈ (famL fa st).reverse, ∃ k, k < 6 ∧ p = (fa k, st.fam k) := fun p hp => by
    obtain ⟨k, hk, rfl⟩ := List.mem_map.mp (List.mem_reverse.mp hp)
    obtain ⟨m, hm⟩ := (inv1.o1 k).mp hk
    exact ⟨k, inv1.rl k m hm, rfl⟩
  have hsum : ((famL fa st).reverse.map fun p => p.2.length).sum ≤ 42 := by
    refine Nat.le_trans (sumLe (m := 7) _ fun p hp => ?_) ?_
    · obtain ⟨k, hk, rfl⟩ := fin_ p hp
      have := inv1.t4 k
      show (st.fam k).length ≤ 7
      omega
    · unfold famL
      rw [List.length_reverse, List.length_map]
      omega
  refine args_nil ?_
  refine ⟨G₂₄, useS (parent_spec (s := { s with heap := h₂₄, gens := gs₁₇, toks := _ }) (n := h₂₃.objs.size) (pl := (famL fa st).reverse) G₂₄ ((R.deeper _).le (by decide)) (hi_ (Nat.lt_of_lt_of_le S23 z₂₄)) (hi_ S23) Kc LO₂₄ (Nat.lt_trans LO.lt cS) (fun p hp => ?_) (Nat.lt_of_le_of_lt hsum (by decide))) ?_⟩
  · obtain ⟨k, hk, rfl⟩ := fin_ p hp
    have f22 : fa k < h₂₂.objs.size := let ⟨_, q, _⟩ := LF₂₂ k hk; q.lt
    exact ⟨Nat.lt_trans f22 h22c, Nat.ne_of_lt (Nat.lt_of_lt_of_le f22 hol'), ((LF₂₂ k hk).ext x₂₃ id).ext x₂₄ (n73 _ (hi_ (faS k hk)))⟩
  rintro r' s' ⟨h₂₅, tk₂₅, d, rfl, rfl, x₂₅, hd, D₂₅⟩ z₂₅
  refine ⟨_, rfl, ?_⟩
  have dS : s.heap.objs.size < d := Nat.lt_of_lt_of_le S23 (Nat.le_trans z₂₄ hd)
  have F₂₅ := ((F₂₂.ext x₂₃ id).ext x₂₄ (n73 _ hs)).ext x₂₅ fun q => absurd q.1 (Nat.not_le.mpr Sc)
  have nq : ∀ {P : Addr} b, (c ≤ b ∧ NC h₂₄ b) → (Tb b ∧ b ≠ P) ∨ (Hi b ∧ NC h₂₄ b) := fun b q => .inr ⟨Nat.lt_of_lt_of_le c114 q.1, q.2⟩
  have q73 : ∀ {P : Addr} {h : Heap}, P ≠ 73 → ∀ b, At 73 b → (Tb b ∧ b ≠ P) ∨ (Hi b ∧ NC h b) := fun hP b z => .inl ⟨.inr (.inr z), by rw [show b = 73 from z]; exact Ne.symm hP⟩
  have T1₂₅ := (K₂₃.t1.ext x₂₄ (by decide) (by decide) (q73 (by decide))).ext x₂₅ (by decide) (by decide) nq
  have T2₂₅ := (K₂₃.t2.ext x₂₄ (by decide) (by decide) (q73 (by decide))).ext x₂₅ (by decide) (by decide) nq
  have T3₂₅ := T₂₄.ext x₂₅ (by decide) (by decide) nq
  have y₂₅ := (K₂₃.y.up x₂₄ fun b q => .inr (.inr (.inr q))).up x₂₅ fun b q => .inl (Nat.le_trans (Nat.le_of_lt Sc) q.1)
  refine Loc.storeZ F₂₅ ?_
  intro h₂₆ F₂₆ x₂₆ z₂₆
  have T1₂₆ := T1₂₅.ext x₂₆ (by decide) (by decide) (ncL F₂₅)
  have T2₂₆ := T2₂₅.ext x₂₆ (by decide) (by decide) (ncL F₂₅)
  have T3₂₆ := T3₂₅.ext x₂₆ (by decide) (by decide) (ncL F₂₅)
  have y₂₆ := y₂₅.up x₂₆ fun b q => .inl (Nat.le_of_eq (show b = s.heap.objs.size from q).symm)
  have D₂₆ := D₂₅.ext x₂₆ (nL _ dS)
  have e26 : Ext (fun b => b = s.heap.objs.size ∨ b = 73 ∨ c ≤ b) h₂₂ h₂₆ := (((x₂₃.mono fun _ q => q.elim).up x₂₄ fun b q => .inr (.inl q)).up x₂₅ fun b q => .inr (.inr q.1)).up x₂₆ fun b q => .inl q
  have nz : ∀ b, s.heap.objs.size < b → b < h₂₂.objs.size → ¬ (b = s.heap.objs.size ∨ b = 73 ∨ c ≤ b) := fun b h1 h2 q => by
    rcases q with q | q | q
    · exact nL b h1 q
    · exact n73 b (hi_ h1) q
    · exact absurd (Nat.lt_trans h2 h22c) (Nat.not_lt.mpr q)
  have LA₂₆ := LA₂₂.ext e26 (nz _ AhS LA₂₂.lt)
  have aA₂₆ : All2 (fun v k => ∃ l, v = .ref l ∧ s.heap.objs.size < l ∧ LN h₂₆ l (outM (xsOf ns) k)) es (List.range 6) := aA₂₂.mono fun v k ⟨l, e, q, r⟩ => ⟨l, e, up2 q, r.ext e26 (nz _ (up2 q) (let ⟨_, q, _⟩ := r; q.lt))⟩
  have Lrl₂₆ := Lrl₂₂.ext e26 (nz _ rlS Lrl₂₂.lt)
  have LF₂₆ : ∀ i, i < 6 → LN h₂₆ (fa i) (st.fam i) := fun i hi => (LF₂₂ i hi).ext e26 (nz _ (faS i hi) (let ⟨_, q, _⟩ := LF₂₂ i hi; q.lt))
  have LTt₂₆ := LTt₂₂.ext e26 (nz _ (up2 TtS2) LTt₂₂.lt)
  have ct₂₆ := cellExt ct₂₂ e26 (nz _ (show s.heap.objs.size < s.heap.objs.size + 2 from Nat.lt_add_of_pos_right (by decide)) (let ⟨_, ho, _⟩ := ct₂₂; Heap.lt_size ho))
  have G₂₆ := G.z y₂₆ hs
  have dlo : (d == sysModules) = false := beq_eq_false_iff_ne.mpr fun q => absurd (hi_ dS) (by rw [q]; decide)
  have dlen : (tabF (famL fa st).reverse).length < 60 := by
    have := tabF_len (famL fa st).reverse []
    exact Nat.lt_of_le_of_lt this (by rw [List.length_nil]; omega)
  have dnd : ((tabF (famL fa st).reverse).map (·.1)).Nodup := let ⟨_, _, _, _, _, _, _, _, _, hn⟩ := D₂₆; hn
  have hdone : ∀ k, k < 6 → st.rounds k = told (fun k => outM (xsOf ns) k) 6 k := inv1.done (brd ns).lt hnil
  have S26 := F₂₆.lt
  clear K₂₂ K₂₃ F₂₂ F₂₅ ct₂₂ LA₂₂ aA₂₂ Lrl₂₂ Lol₂₂ LF₂₂ LTt₂₂ x₂₃ x₂₄ x₂₅ x₂₆ G₂₂ G₂₃ G₂₄ T1₂₅ T2₂₅ T3₂₅ y₂₅ D₂₅ T₂₄ Kc LO LO₂₄ e26 nz nq q73 eL tol
  clear hol' hd h22c S22 S23 cS z₂₁ z₂₄ z₂₅
  -- the answers
  have tvl : tv.length = 6 := atv.1
  have toldAt : ∀ k, k < 6 → ∃ v, tv[((k : Nat) : Int).toNat]? = some v ∧ OVN v (told (fun k => outM (xsOf ns) k) 6 k) := fun k hk => atR atv hk
  refine wpAny_execs_cons (wpAny_If (wpAny_mono (Q := fun b s' => b = false ∧ ∃ h tk, s' = { s with heap := h, gens := gs₁₇, toks := tk } ∧ Ext Non h₂₆ h) ?_ ?_ fun _ _ q => q))
  · refine hide fun Q5 hQ5 => ?_
    refine wpAny_isTrue_BoolOp ?_
    refine wpAny_allTrue_Or_cons ?_
    refine wpAny_isTrue_Compare1 ?_
    refine Loc.name F₂₆ (lkN (lkN lkE)) ?_
    refine cellName ct₂₆ ?_
    refine neSame Lrl₂₆ LTt₂₆ (by rw [arv.1, tvl]; rfl) (hu _) (fun j u v hu hv => ?_) ?_
    rotate_left
    refine wpAny_truthy_bool ?_
    rotate_left
    · obtain ⟨o, ho, r⟩ := arv.at' hu
      obtain ⟨o', ho', r'⟩ := atv.at' hv
      have hj : j < 6 := by
        have := (List.getElem?_eq_some_iff.mp hv).1
        rw [tvl] at this; exact this
      rw [List.getElem?_map, List.getElem?_range hj] at ho ho'
      have e1 : st.rounds j = o := Option.some.inj ho
      have e2 : told (fun k => outM (xsOf ns) k) 6 j = o' := Option.some.inj ho'
      rw [← e1] at r
      rw [← e2, ← hdone j hj] at r'
      exact r.alike r'
    rw [if_neg Bool.false_ne_true]
    refine wpAny_allTrue_Or_cons ?_
    refine wpAny_isTrue_Compare1 ?_
    refine sorted_ G₂₆ R.handled ?_
    refine Loc.name F₂₆ lkE ?_
    refine ⟨d, _, rfl, D₂₆, dlen, dlo, fun Ds h₂₇ tk₂₇ dv dn hDs LDs ia perm pw x₂₇ => ?_⟩
    have ek := keys_sorted inv1 hdone fa perm pw dnd
    rw [ek] at ia
    have a1 := ints2 _ _ ia
    have G₂₇ := G₂₆.ext x₂₇ fun _ q => q.elim
    refine compTR (fun i ys => All2 IVN ys ((List.range i).filter fun k => (told (fun k => outM (xsOf ns) k) 6 k).isSome)) rfl (by decide) rfl (by decide) rfl R.handled .nil ?_
    refine range_ G₂₇ ?_
    refine wpAny_Constant_int ?_
    refine ⟨6, _, rfl, fun r h₂₈ tk₂₈ t₁ t₂ t₃ hr IR x₂₈ hr8 => ⟨r, 6, t₁, t₂, t₃, rfl, IR, by decide, fun C i t ys h tk mm hi hr e hC nC mx => ?_, fun D₂ h₂₉ tk₂₉ us₂ hD₂ x₂₉ LD₂ ar₂ => ?_⟩⟩
    · obtain ⟨u, hu, ou⟩ := toldAt i hi
      have e0 : Ext Non h₂₆ h := (x₂₇.non x₂₈).non e
      refine tests1 ?_
      refine wpAny_isTrue_Compare1 ?_
      refine Subscript_ ?_
      refine cellName (cellExt ct₂₆ e0 id) ?_
      refine nsName nC mx ?_
      refine item (LTt₂₆.ext e0 id) (Int.natCast_nonneg i) (k63 hi) hu ?_
      refine wpAny_Constant_none ?_
      refine isnot_none_gen ?_
      refine wpAny_truthy_bool ?_
      cases hT : told (fun k => outM (xsOf ns) k) 6 i with
      | none =>
        rw [hT] at ou
        have ou' : u = .none := ou
        subst ou'
        refine ⟨h, _, rfl, Ext.refl _ _, ?_⟩
        rw [if_neg (by show ¬ ((!(Value.none == Value.none)) = true); exact Bool.false_ne_true)]
        show All2 IVN ys (List.filter _ (List.range (i + 1)))
        rw [List.range_succ, List.filter_append, List.filter_cons, List.filter_nil, if_neg (by rw [hT]; exact Bool.false_ne_true), List.append_nil]
        exact hr
      | some m₂ =>
        rw [hT] at ou
        obtain ⟨t', rfl⟩ := ou
        refine ⟨h, _, rfl, Ext.refl _ _, ?_⟩
        rw [if_pos (by show (!(Value.int (m₂ : Nat) t' == Value.none)) = true; rfl)]
        refine nsName nC mx ?_
        refine ⟨h, _, rfl, Ext.refl _ _, ?_⟩
        show All2 IVN (ys ++ [_]) (List.filter _ (List.range (i + 1)))
        rw [List.range_succ, List.filter_append, List.filter_cons, List.filter_nil, if_pos (by rw [hT]; rfl)]
        exact hr.append (.cons ⟨t, rfl⟩ .nil)
    · have LDs' := (LDs.ext x₂₈ id).ext x₂₉ id
      refine neSame LDs' LD₂ (by rw [a1.1]; exact ar₂.1.symm) (hu _) (fun j u v hu hv => ?_) ?_
      rotate_left
      refine wpAny_truthy_bool ?_
      · rw [if_neg Bool.false_ne_true]
        refine wpAny_allTrue_Or_nil ?_
        exact hQ5 _ _ ⟨rfl, h₂₉, _, rfl, (x₂₇.non x₂₈).non x₂₉⟩
      · obtain ⟨k, hk, r⟩ := a1.at' hu
        exact .inl (r.alike (ar₂.2 j v k hv hk))
  rintro _ _ ⟨rfl, h₂₇, tk₂₇, rfl, x₂₇⟩
  rw [if_neg Bool.false_ne_true]
  refine wpAny_execs_nil ?_
  have F₂₇ := F₂₆.ext x₂₇ id
  have G₂₇ := G₂₆.ext x₂₇ fun _ q => q.elim
  have ct₂₇ := cellExt ct₂₆ x₂₇ id
  have LTt₂₇ := LTt₂₆.ext x₂₇ id
  have LA₂₇ := LA₂₆.ext x₂₇ id
  have aA₂₇ : All2 (fun v k => ∃ l, v = .ref l ∧ s.heap.objs.size < l ∧ LN h₂₇ l (outM (xsOf ns) k)) es (List.range 6) := aA₂₆.mono fun v k ⟨l, e, q, r⟩ => ⟨l, e, q, r.ext x₂₇ id⟩
  have LF₂₇ : ∀ i, i < 6 → LN h₂₇ (fa i) (st.fam i) := fun i hi => (LF₂₆ i hi).ext x₂₇ id
  have D₂₇ := D₂₆.ext x₂₇ id
  have T1₂₇ := T1₂₆.non x₂₇ (by decide) (by decide)
  have T2₂₇ := T2₂₆.non x₂₇ (by decide) (by decide)
  have T3₂₇ := T3₂₆.non x₂₇ (by decide) (by decide)
  have y₂₇ := y₂₆.up x₂₇ fun _ q => q.elim
  have S27 := F₂₇.lt
  clear F₂₆ G₂₆ ct₂₆ LTt₂₆ LA₂₆ aA₂₆ LF₂₆ D₂₆ T1₂₆ T2₂₆ T3₂₆ y₂₆ x₂₇ Lrl₂₆ S26
  refine wpAny_execs_cons ?_
  refine forL ?_ ?_
  exact R.handled
  refine sorted_ G₂₇ R.handled ?_
  refine Loc.name F₂₇ lkE ?_
  refine ⟨d, _, rfl, D₂₇, dlen, dlo, fun Ds h₂₈ tk₂₈ dv dn hDs LDs ia perm pw x₂₈ => ?_⟩
  have ek := keys_sorted inv1 hdone fa perm pw dnd
  rw [ek] at ia
  have a1 := ints2 _ _ ia
  clear ia perm pw ek
  refine ⟨Ds, dv, rfl, LDs, ?_⟩
  intro I h₂₉ hI x₂₉ L₂₉ hI29
  have e79 : Ext Non h₂₇ h₂₉ := x₂₈.non x₂₉
  have I27 : h₂₇.objs.size ≤ I := by rw [hI]; exact Nat.le_trans hDs (Nat.le_of_lt LDs.lt)
  have SI : s.heap.objs.size < I := Nat.lt_of_lt_of_le S27 I27
  have SDs : s.heap.objs.size < Ds := Nat.lt_of_lt_of_le S27 hDs
  have F₂₉ := (F₂₇.ext x₂₈ id).ext x₂₉ id
  have cN : ∀ {h : Heap}, Ext (At s.heap.objs.size) h₂₇ h → h.IsCell (s.heap.objs.size + 2) (some (.ref Tt)) := fun e => cellExt ct₂₇ e (nL _ (show s.heap.objs.size < s.heap.objs.size + 2 from Nat.lt_add_of_pos_right (by decide)))
  have tN : ∀ {h : Heap}, Ext (At s.heap.objs.size) h₂₇ h → Ls h Tt tv := fun e => LTt₂₇.ext e (nL _ (up2 TtS2))
  have gN : ∀ {h : Heap}, Ext (At s.heap.objs.size) h₂₇ h → Gd w mg mb h := fun e => G₂₇.ext e fun b q => .inl (by rw [show b = s.heap.objs.size from q]; exact hs)
  have aheadAt : ∀ {h : Heap} {p : Nat}, p < 6 → Ext (At s.heap.objs.size) h₂₇ h → ∃ l, es[((p : Nat) : Int).toNat]? = some (.ref l) ∧ LN h l (outM (xsOf ns) p) := fun hp e => by
    obtain ⟨v, hv, l, rfl, hl, r⟩ := aA₂₇.at (List.getElem?_range hp)
    exact ⟨l, by rw [Int.toNat_natCast]; exact hv, r.ext e (nL _ hl)⟩
  have onL : ∀ b, At s.heap.objs.size b → b ≠ I ∧ b ≠ Ds := fun b q => by
    rw [show b = s.heap.objs.size from q]
    exact ⟨Nat.ne_of_lt SI, Nat.ne_of_lt SDs⟩
  refine ⟨fun i s' => LwI s' s gs₁₇ h₂₇ d Ah I, ?_, ?_, ?_, ?_⟩
  · exact ⟨h₂₉, _, _, rfl, e79.mono fun _ q => q.elim, F₂₉, lkE, lkN (lkN (lkN lkE)), Nat.le_of_lt hI29⟩
  · rintro i _ h tk ⟨h₀, tk₀, m, rfl, e₀, F₀, m1, m2, hz0⟩ _ hsz x
    exact ⟨h, tk, m, rfl, e₀.st x I27, F₀.ext x (Nat.ne_of_lt SI), m1, m2, Nat.le_trans hz0 hsz⟩
  · rintro i v _ hiv ⟨h₀, tk₀, m, rfl, e₀, F₀, m1, m2, hz0⟩
    refine hideB fun Q1 hQ1 => ?_
    obtain ⟨k, hk, tk', rfl⟩ := a1.at' hiv
    obtain ⟨hk1, hk2⟩ := List.mem_filter.mp (List.mem_of_getElem? hk)
    have hk6 := List.mem_range.mp hk1
    obtain ⟨mk, hmk⟩ := Option.isSome_iff_exists.mp hk2
    have hmk6 : mk < 6 := told_lt hmk
    obtain ⟨u, hu', ou⟩ := toldAt k hk6
    rw [hmk] at ou
    obtain ⟨t5, rfl⟩ := ou
    refine wpAny_assign_Name ?_
    refine Loc.storeZ F₀ ?_
    intro h₁ F₁ x₁ z₁
    refine wpAny_execs_cons ?_
    refine wpAny_Assign_Name ?_
    refine Loc.name F₁ lkE ?_
    refine Loc.storeZ F₁ ?_
    intro h₂ F₂ x₂ z₂
    have e₂ := (e₀.trans x₁).trans x₂
    have z02 : h₀.objs.size ≤ h₂.objs.size := Nat.le_trans z₁ z₂
    refine wpAny_execs_cons ?_
    refine forR ?_ ?_
    exact R.handled
    refine range_ (gN e₂) ?_
    refine Subscript_ ?_
    refine cellName (cN e₂) ?_
    refine Loc.name F₂ (lkN lkE) ?_
    refine item (tN e₂) (Int.natCast_nonneg k) (k63 hk6) hu' ?_
    refine ⟨mk, t5, rfl, fun r h₃ tk₃ t₁ t₂ t₃ hr IR x₃ hr3 => ⟨r, mk, t₁, t₂, t₃, rfl, IR, Nat.lt_trans hmk6 (by decide), fun J h₄ hJ x₄ hJ4 => ?_⟩⟩
    have e₄ := (e₂.non x₃).non x₄
    have J2 : h₂.objs.size ≤ J := by
      have hr' : r = h₂.objs.size := hr
      rw [hJ, ← hr']; exact Nat.le_of_lt hr3
    have J0 : h₀.objs.size ≤ J := Nat.le_trans z02 J2
    have IJ : I ≤ J := Nat.le_trans hz0 J0
    have J27 : h₂₇.objs.size ≤ J := Nat.le_trans I27 IJ
    have SJ : s.heap.objs.size < J := Nat.lt_of_lt_of_le S27 J27
    have onJ : ∀ b, At s.heap.objs.size b → b ≠ J := fun b q => by
      rw [show b = s.heap.objs.size from q]
      exact Nat.ne_of_lt SJ
    refine ⟨fun j s' => LwJ s' s gs₁₇ h₀ h₂₇ d Ah j mk st I, ?_, ?_, ?_, ?_⟩
    · exact ⟨h₄, _, _, k, _, rfl, (((x₁.trans x₂).non x₃).non x₄), e₄, (F₂.ext x₃ id).ext x₄ id, lkN (lkN m1), lkN (lkN m2), lkE, hk6, Nat.zero_le _, (hdone k hk6).trans hmk, Nat.le_trans IJ (Nat.le_of_lt hJ4)⟩
    · rintro j _ h tk ⟨h₀', tk₀', m', p, tp, rfl, f₀, f₁, F', n1, n2, n3, hp, hj, hr, hz'⟩ _ hsz x
      exact ⟨h, tk, m', p, tp, rfl, f₀.st x J0, f₁.st x J27, F'.ext x (Nat.ne_of_lt SJ), n1, n2, n3, hp, hj, hr, Nat.le_trans hz' hsz⟩
    · rintro j tj _ hj ⟨h₀', tk₀', m', p, tp, rfl, f₀, f₁, F', n1, n2, n3, hp, _, hr, hz'⟩
      refine hideB fun Q2 hQ2 => ?_
      obtain ⟨m₁, hm₁⟩ : ∃ m₁, mk - j = m₁ + 1 := ⟨mk - j - 1, by omega⟩
      have hm₂ : mk - (j + 1) = m₁ := by omega
      rw [hm₁] at hr
      obtain ⟨s0, hf, hs0, hr0, hs6⟩ := inv1.parent hr
      have hval : valueAt (tabF (famL fa st).reverse) (p : Int) = some (.ref (fa s0)) := by rw [tab_at, hf]; rfl
      obtain ⟨ft, hft⟩ := inv1.t3 s0
      obtain ⟨up, hup, oup⟩ := toldAt p hp
      obtain ⟨u0, hu0, ou0⟩ := toldAt s0 hs6
      rw [← hdone p hp, hr] at oup
      rw [← hdone s0 hs6, hr0] at ou0
      obtain ⟨t6, rfl⟩ := oup
      obtain ⟨t7, rfl⟩ := ou0
      refine wpAny_assign_Name ?_
      refine Loc.storeZ F' ?_
      intro h₅ F₅ x₅ z₅
      have f₅ := f₁.trans x₅
      obtain ⟨fv, Lf, af⟩ := (LF₂₇ s0 hs6).ext f₅ (nL _ (faS s0 hs6))
      rw [hft] at af
      obtain ⟨v0, hv0, t8, rfl⟩ := af.at (i := 0) rfl
      have D₅ := D₂₇.ext f₅ (nL _ dS)
      refine wpAny_execs_cons ?_
      refine wpAny_Assign_Name ?_
      refine Subscript_ ?_
      refine Subscript_ ?_
      refine Loc.name F₅ (lkN n1) ?_
      refine Loc.name F₅ (lkN n3) ?_
      refine tail_any (ops := _) D₅.typeIs slot_dict_getitem.lookup (getD D₅ hval ?_) (by with_unfolding_all rfl)
      refine wpAny_Constant_int ?_
      refine item Lf (by decide) (by decide) hv0 ?_
      refine Loc.storeZ F₅ ?_
      intro h₆ F₆ x₆ z₆
      have f₆ := f₅.trans x₆
      obtain ⟨l, hl, LNl⟩ := aheadAt hp f₆
      refine wpAny_execs_cons ?_
      refine wpAny_If ?_
      refine wpAny_isTrue_BoolOp ?_
      refine wpAny_allTrue_Or_cons ?_
      refine wpAny_isTrue_Compare1 ?_
      refine Loc.name F₆ lkE ?_
      refine Subscript_ ?_
      refine Loc.name F₆ (lkN (lkN n2)) ?_
      refine Loc.name F₆ (lkN (lkN n3)) ?_
      refine item (LA₂₇.ext f₆ (nL _ AhS)) (Int.natCast_nonneg p) (k63 hp) hl ?_
      refine inThere LNl hs0 ?_
      refine wpAny_truthy_bool ?_
      rw [if_neg Bool.false_ne_true]
      refine wpAny_allTrue_Or_cons ?_
      refine wpAny_isTrue_Compare1 ?_
      refine Subscript_ ?_
      refine cellName (cN f₆) ?_
      refine Loc.name F₆ lkE ?_
      refine item (tN f₆) (Int.natCast_nonneg s0) (k63 hs6) hu0 ?_
      refine wpAny_BinOp ?_
      refine Subscript_ ?_
      refine cellName (cN f₆) ?_
      refine Loc.name F₆ (lkN (lkN n3)) ?_
      refine item (tN f₆) (Int.natCast_nonneg p) (k63 hp) hup ?_
      refine wpAny_Constant_int ?_
      refine P.sub_int ?_
      refine PyProof.Rows.ne_int ?_
      refine wpAny_truthy_bool ?_
      have en : (((m₁ : Nat) : Int) != ((m₁ + 1 : Nat) : Int) - 1) = false := by
        rw [bne_eq_false_iff_eq]; omega
      rw [if_neg (by rw [en]; exact Bool.false_ne_true)]
      refine wpAny_allTrue_Or_nil ?_
      rw [if_neg Bool.false_ne_true]
      refine wpAny_execs_nil ?_
      refine wpAny_execs_cons ?_
      refine wpAny_Assign_Name ?_
      refine Loc.name F₆ lkE ?_
      refine Loc.storeZ F₆ ?_
      intro h₇ F₇ x₇ z₇
      refine wpAny_execs_nil (hQ2 _ _ ⟨rfl, ⟨h₇, _, _, s0, _, rfl, ((f₀.trans x₅).trans x₆).trans x₇, f₆.trans x₇, F₇, lkN (lkN (lkN n1)), lkN (lkN (lkN n2)), lkE, hs6, hj, ?_, Nat.le_trans hz' (Nat.le_trans z₅ (Nat.le_trans z₆ z₇))⟩, ((x₅.trans x₆).trans x₇).mono onJ⟩)
      rw [hm₂]
      exact hr0
    · rintro _ ⟨h₀', tk₀', m', p, tp, rfl, f₀, f₁, F', n1, n2, n3, hp, _, hr, hz'⟩
      rw [Nat.sub_self] at hr
      have hz := inv1.zero hr
      obtain ⟨l, hl, LNl⟩ := aheadAt hp f₁
      refine wpAny_execs_cons ?_
      refine wpAny_If ?_
      refine wpAny_isTrue_Compare1 ?_
      refine Subscript_ ?_
      refine Loc.name F' n2 ?_
      refine Loc.name F' n3 ?_
      refine item (LA₂₇.ext f₁ (nL _ AhS)) (Int.natCast_nonneg p) (k63 hp) hl ?_
      refine List_ ?_
      refine args_nil ?_
      refine newL (by decide) ?_
      intro e h₅ he Le x₅
      rw [hz] at LNl
      obtain ⟨lv, Ll, al⟩ := LNl.ext x₅ id
      have : lv = [] := List.eq_nil_of_length_eq_zero al.1
      subst this
      refine neNil Ll Le (hu _) ?_
      refine wpAny_truthy_bool ?_
      rw [if_neg (by exact Bool.false_ne_true)]
      have he' : e = h₀'.objs.size := he
      refine wpAny_execs_nil (wpAny_execs_nil (hQ1 _ _ ⟨rfl, ⟨h₅, _, _, rfl, f₁.non x₅, F'.ext x₅ id, n1, n2, Nat.le_trans hz' (by rw [← he']; exact Nat.le_of_lt Le.lt)⟩, (f₀.non x₅).mono onL⟩))
  · rintro _ ⟨h₀, tk₀, m, rfl, e₀, F₀, m1, m2, _⟩
    refine wpAny_execs_cons ?_
    refine wpAny_Return_some ?_
    refine wpAny_Constant_bool ?_
    have yE := y₂₇.up e₀ fun b q => .inl (Nat.le_of_eq (show b = s.heap.objs.size from q).symm)
    exact hQ0 _ _ ⟨h₀, gs₁₇, _, rfl, rfl, fun a o e n => yE a o e fun q => q.elim (fun q => absurd (Heap.lt_size e) (Nat.not_lt.mpr q)) n, T1₂₇.ext e₀ (by decide) (by decide) (ncL F₂₇), T2₂₇.ext e₀ (by decide) (by decide) (ncL F₂₇), T3₂₇.ext e₀ (by decide) (by decide) (ncL F₂₇), hb₂₀⟩
end Mine
end
section
open PySem PySem.W PyProof.Rows PySem.Calls PySem.Builtin
set_option maxHeartbeats 8000000
namespace Mine
theorem oldOf [Bs] {h h' : Heap} (hn : Bs.n = h.objs.size) (x : Ext Tb h h') (t : ∀ P, Tb P → h.get? P = some (tabObj #[]) ∧ isCodeTable h P ∧ ∃ ps, h'.get? P = some (tabObj ps)) : OldK h h' where
  old := fun b o e => by
    by_cases q : Tb b
    · obtain ⟨e1, e2, ps, e3⟩ := t b q
      rw [e] at e1; cases e1
      exact .inr (.inl ⟨e2, rfl, #[], ps, rfl, by rw [e3, Array.empty_append]⟩)
    · exact .inl (x.get e q (.inr fun _ _ _ => by rw [hn]; exact Heap.lt_size e))
  there := fun b o e => by
    by_cases q : Tb b
    · obtain ⟨_, _, ps, e3⟩ := t b q
      exact ⟨_, e3⟩
    · obtain ⟨o', e', _⟩ := x.data e q
      exact ⟨o', e'⟩
theorem tabOf [Bs] {h : Heap} {c P : Addr} {q : Str} (x : CodeHd h c P) (hP : h.get? P = some (tabObj #[])) : Tab h c P q := ⟨#[], x.code hP trivial, x.tab hP, fun pos v e => nomatch e⟩
theorem ivOf [Bs] {vs : List Value} {ns : List Int} (h : IntsAre vs ns) : All2 IV vs ns := by
  induction h with
  | nil => exact .nil
  | cons n t _ ih => exact .cons ⟨t, rfl⟩ ih
theorem entry {w : World} {s : Shared} {mg mb : Str → Option Value} {loose : List Str} {mean : ExcName → Option Value} {p : Program} {sc : Addr} {vs : List Value} {ns : List Int}
    (T : Top p loose mean mg mb s.heap) (K : (heapK w.params).In s.heap) (hT : ∀ P ∈ [73, 66, 23], s.heap.get? P = some (tabObj #[])) (hsc : s.heap.IsList sc vs.toArray) (hi : IntsAre vs ns) (hlen : ns.length ≤ 63) (hg : s.gens = #[]) :
    codeAny (model PG w) callerA (.call (.ref 114) ⟨[.ref sc], []⟩) (fun r s' => r = .ok (.ret (.bool true)) ∧ OldK s.heap s'.heap ∧ s'.os = s.os ∧ AllBare s'.gens) s := by
  letI : Bs := ⟨s.heap.objs.size⟩
  have hs : 114 < s.heap.objs.size := Heap.lt_size (K 114 _ rfl)
  have G : Gd w mg mb s.heap := by
    refine ⟨K, T.g, T.b, T.nolimit, T.builtins, ?_⟩
    obtain ⟨bm, ob, h1, h2, h3, h4, h5, h6⟩ := T.bmain
    have h0 : mg (Str.ofString "__builtins__") = some (.ref 4) := mg_of K T.g (by kernel_rfl)
    have h1' : mg (Str.ofString "__builtins__") = some (.ref bm) := h1
    rw [h0] at h1'
    have e : 4 = bm := by injection h1' with e; injection e
    subst e
    exact ⟨ob, h3, h4, h5, h6⟩
  have c1 : CodeHd s.heap 27 23 := codeHd_of_K K (by kernel_rfl)
  have c2 : CodeHd s.heap 70 66 := codeHd_of_K K (by kernel_rfl)
  have c3 : CodeHd s.heap 77 73 := codeHd_of_K K (by kernel_rfl)
  have p1 := hT 23 (by decide)
  have p2 := hT 66 (by decide)
  have p3 := hT 73 (by decide)
  refine codeAny_mono (law_spec G ⟨by decide, by decide, rfl⟩ rfl hs (Nat.le_refl _) (tabOf c1 p1) (tabOf c2 p2) (tabOf c3 p3) hsc (ivOf hi) (Nat.lt_of_le_of_lt hlen (by decide))) fun r s' q => ?_
  obtain ⟨h', gs, tk, rfl, rfl, x, t1, t2, t3, hb⟩ := q
  refine ⟨rfl, oldOf rfl x (fun P hP => ?_), rfl, hb (by rw [hg]; exact fun x hx => by simp at hx)⟩
  rcases hP with rfl | rfl | rfl
  · obtain ⟨ps, _, ta, _⟩ := t1
    exact ⟨p1, (c1.tab p1).isCodeTable, ps, ta.2⟩
  · obtain ⟨ps, _, ta, _⟩ := t2
    exact ⟨p2, (c2.tab p2).isCodeTable, ps, ta.2⟩
  · obtain ⟨ps, _, ta, _⟩ := t3
    exact ⟨p3, (c3.tab p3).isCodeTable, ps, ta.2⟩
end Mine
end
open PySem PySem.W PyProof.Rows
set_option maxHeartbeats 8000000 in
theorem PySem.Challenge.cw_op0034_01_holds : PySem.Challenge.rw_op0034_01.Holds := by
  refine Mine.hd (by rfl) (by rfl) (by rfl) ?_
  intro w s₀ s₁ mg mb G Y fa o pm cd doc dV kV ho hd' hcd hD hmg hg args vals as hpre hlay hrd hwl hlo
  have KX := km_in_of Y
  have hT8 := km_tabs_of Y
  refine Ground.open G ?_
  intro T B D TE TW
  have h0 : mg (Str.ofString "law") = some (.ref 114) := mg_of KX T.g (by kernel_rfl)
  have hfa : fa = 114 := by
    have q : mg (Str.ofString "law") = some (.ref fa) := hmg
    rw [h0] at q
    injection q with e; injection e with e; exact e.symm
  subst hfa
  clear ho hd' hcd hD hmg D B TE TW
  wrow_args hpre hlay hrd hwl hlo
  all_goals (refine enter_call ?_)
  rename_i ns h1 h2 h3 h4 h5 ls1 ls2 sc vs ls3 hL ra w1 r0 hI hr hlen ht
  refine codeAny_mono (Mine.entry T KX hT8 hL hI (by omega) hg) fun r s' q => ?_
  obtain ⟨rfl, q1, q2, q3⟩ := q
  have hp : ∀ as bs : List WData, rw_op0034_01.row.toRowW.claim.post as (WData.bool true) bs = true := fun as bs => by
    have h1 : WTm.holds ([] : WRecords) (.eq .res (.lit (.bool true))) { args := as, res := some (.bool true), after := bs } = true := holdsW_of_value (w_eq_bool (k := true) (l := true) (w_res rfl) w_lit)
    have h2 : WShape.has ([] : WRecords) (.bool true) .bool = true := by kernel_rfl
    show (WShape.has ([] : WRecords) (.bool true) .bool && WTm.holds ([] : WRecords) (.eq .res (.lit (.bool true))) { args := as, res := some (.bool true), after := bs }) = true
    rw [h1, h2]; rfl
  exact ⟨.inl ⟨_, _, _, rfl, fun cls => rfl, .bool true, hp _ _, fun _ => ⟨List.nodup_nil, fun a m => nomatch m⟩⟩, q1, q2, q3⟩
